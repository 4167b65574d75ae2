import JvmDerived
import JvmDerived.Pilot.@@N@@Statement
import JvmDerived.Pilot.@@N@@Code
set_option linter.unusedVariables false
set_option linter.unusedSimpArgs false
namespace Jvm.RoadKit
open Sem ClassFile Op Lib Jvm.Stand Jvm.Free Jvm.LawKit
section OwnA
variable {p : Program} {l : Launch} {e : Env} {R : Room} {s : State} {m : MethodId} {args : Array Value} {below : List Frame} {meth : Method} {c : Code} {T : State} {locs : List Loc} {cells slots : Nat} {Z : State} {a0 : Array Value} {h : Heap}
/-- from T the run comes to an end of which K speaks -/
def Go (p : Program) (e : Env) (below : List Frame) (K : Outcome → State → Prop) (T : State) : Prop :=
  ∃ s₂ o, Steps p.tables e below T s₂ ∧ s₂.status = .running ∧ Ended s₂ below o ∧ K o s₂
theorem Go.of {K : Outcome → State → Prop} {T T' : State} (st : ∀ t, Steps p.tables e below T' t → Steps p.tables e below T t) (k : Go p e below K T') : Go p e below K T := by
  obtain ⟨t, o, h1, h2⟩ := k
  exact ⟨t, o, st t h1, h2⟩
/-- what stands through a whole body -/
def Cx (p : Program) (s : State) (m : MethodId) (meth : Method) (c : Code) (Z : State) (own : String) (bytes : ByteArray) (maxL : Nat) (ret : Option FieldType) (nm : String) : Prop :=
  p.tables.exec = Jvm.exec ∧ Z.Warmed39 s.vm ∧ c.code = bytes ∧ c.maxLocals = maxL ∧ s.vm.findClass own = some m.cls ∧ meth.sig.returnType = ret ∧ meth.name = nm ∧ meth.locks = false
variable {own nm : String} {bytes : ByteArray} {maxL : Nat} {ret : Option FieldType} {K : Outcome → State → Prop}
theorem Cx.hx (C : Cx p s m meth c Z own bytes maxL ret nm) : p.tables.exec = Jvm.exec := C.1
theorem Cx.hZ (C : Cx p s m meth c Z own bytes maxL ret nm) : Z.Warmed39 s.vm := C.2.1
theorem Cx.hby (C : Cx p s m meth c Z own bytes maxL ret nm) : c.code = bytes := C.2.2.1
theorem Cx.hml (C : Cx p s m meth c Z own bytes maxL ret nm) : c.maxLocals = maxL := C.2.2.2.1
theorem Cx.hown (C : Cx p s m meth c Z own bytes maxL ret nm) : s.vm.findClass own = some m.cls := C.2.2.2.2.1
theorem Cx.hret (C : Cx p s m meth c Z own bytes maxL ret nm) : meth.sig.returnType = ret := C.2.2.2.2.2.1
theorem Cx.hnm (C : Cx p s m meth c Z own bytes maxL ret nm) : meth.name = nm := C.2.2.2.2.2.2.1
theorem Cx.hlk (C : Cx p s m meth c Z own bytes maxL ret nm) : meth.locks = false := C.2.2.2.2.2.2.2
/-- the end of a body: what it returned, the heap, the places written -/
def EndQ (s : State) (Q : Option Value → Heap → List Loc → Prop) (k n : Nat) (o : Outcome) (t : State) : Prop := ∃ v L, o = .returned v ∧ Q v t.heap L ∧ FrameEnd s o t L k n
/-- a body's contract -/
def Ctr (l : Launch) (Z : State) (y : MethodName) (bytes : ByteArray) (maxL : Nat) (ret : Option FieldType) (rm : Room) (as' : Array Value) (h : Heap) (Q : Option Value → Heap → List Loc → Prop) : Prop :=
  ∀ ws, MetFree l y (head1 (Cond.code y bytes maxL ret :: ws) rm) (fun a U => a = as' ∧ Z.Warmed39 U.vm ∧ U.heap = h) (fun _ _ _ _ _ => True) (fun _ U o U' => EndQ U Q rm.cells rm.slots o U')
theorem Ctr.mk {y : MethodName} {rm : Room} {as' : Array Value} {Q : Option Value → Heap → List Loc → Prop} (hp : plainFor y = true) {ls : Array Slot} (hE : ∀ m : MethodId, entryFrame m as' maxL = mkF m 0 ls [])
    (body : ∀ (p : Program) (e : Env) (s : State) (m : MethodId) (below : List Frame) (meth : Method) (c : Code) (T : State), Cx p s m meth c Z y.cls bytes maxL ret y.name → Stand p l e rm s m as' below meth c T [] 0 0 → T.heap = h → s.heap = h → Go p e below (EndQ s Q rm.cells rm.slots) (T.setTop (mkF m 0 ls []))) :
    Ctr l Z y bytes maxL ret rm as' h Q := by
  intro ws
  refine MetFree.of_bodySF hp hisR ?_
  intro p e s m args below meth c s₁ Bd hml0 hP hK
  obtain ⟨rfl, hZ, hh⟩ := hP
  have q := body p e s m below meth c s₁ ⟨Bd.exec, hZ, Bd.bytes, hml0, findClass_of_methodNamed Bd.named, Bd.returns, (name_of_methodNamed Bd.named Bd.method).1, BodyLoose.notSynchronized Bd⟩ (Stand.of_body Bd) (by rw [← hh, Bd.state]; rfl) hh
  rw [← hE m] at q
  exact q
theorem Ctr.mono {y : MethodName} {rm : Room} {as' : Array Value} {Q Q' : Option Value → Heap → List Loc → Prop} (h1 : Ctr l Z y bytes maxL ret rm as' h Q) (h2 : ∀ v h' L, Q v h' L → Q' v h' L) : Ctr l Z y bytes maxL ret rm as' h Q' :=
  fun ws p e ha hc hk s m args below hf happ hP hK => by
    obtain ⟨n, o, g1, g2, g3, v, L, g4, g5, g6⟩ := h1 ws p e ha hc hk s m args below hf happ hP hK
    exact ⟨n, o, g1, g2, g3, v, L, g4, h2 _ _ _ g5, g6⟩
theorem Go.fin (C : Cx p s m meth c Z own bytes maxL ret nm) (X : Stand p l e R s m args below meth c T locs cells slots) (eT : T.heap = h) {v : Option Value} (hv : ret = none → v = none) {Q : Option Value → Heap → List Loc → Prop} {k n : Nat} (hQ : Q v h locs) (hc : cells ≤ k) (hn : slots ≤ n) {g : JFrame}
    (st : ∀ fs, (∀ (f : JFrame) (acts : List Action), f.method = m → f.locked = none → f.entered = [] → (doReturn e (T.setTop f) acts v).1 = T.setFrames fs) → Steps p.tables e below (T.setTop g) (T.setFrames fs)) : Go p e below (EndQ s Q k n) (T.setTop g) := by
  obtain ⟨fs, hr, hrun, hended, hW, hsame⟩ := X.leave (v := v) (fun h => hv (C.hret ▸ h)) C.hlk
  subst eT
  exact ⟨_, _, st fs hr, hrun, hended, _, _, rfl, hQ, ⟨_, rfl⟩, hW, hsame.mono hc hn⟩
theorem Go.ret0 (C : Cx p s m meth c Z own bytes maxL none nm) (X : Stand p l e R s m args below meth c T locs cells slots) (eT : T.heap = h) {pc : Nat} {ls : Array Slot} {Q : Option Value → Heap → List Loc → Prop} {k n : Nat} (hd : decode bytes pc = .ok (.return_, 1)) (hc : cells ≤ k) (hn : slots ≤ n) (hQ : Q none h locs) : Go p e below (EndQ s Q k n) (T.setTop (mkF m pc ls [])) :=
  Go.fin C X eT (v := none) (fun _ => rfl) hQ hc hn fun fs hr => X.returnOut C.hx C.hret (hb C.hby hd) hr
theorem Go.retI (C : Cx p s m meth c Z own bytes maxL (some .int) nm) (X : Stand p l e R s m args below meth c T locs cells slots) (eT : T.heap = h) {pc : Nat} {ls : Array Slot} {z : Int32} {rest : List Value} {Q : Option Value → Heap → List Loc → Prop} {k n : Nat} (hd : decode bytes pc = .ok (.ireturn, 1)) (hc : cells ≤ k) (hn : slots ≤ n) (hQ : Q (some (.int z)) h locs) : Go p e below (EndQ s Q k n) (T.setTop (mkF m pc ls (.int z :: rest))) :=
  Go.fin C X eT (v := some (.int z)) (fun h => nomatch h) hQ hc hn fun fs hr => retOut X C.hx C.hret rfl (Or.inl ⟨rfl, Or.inl rfl, z, rfl⟩) (hb C.hby hd) hr
theorem Go.retJ (C : Cx p s m meth c Z own bytes maxL (some .long) nm) (X : Stand p l e R s m args below meth c T locs cells slots) (eT : T.heap = h) {pc : Nat} {ls : Array Slot} {z : Int64} {rest : List Value} {Q : Option Value → Heap → List Loc → Prop} {k n : Nat} (hd : decode bytes pc = .ok (.lreturn, 1)) (hc : cells ≤ k) (hn : slots ≤ n) (hQ : Q (some (.long z)) h locs) : Go p e below (EndQ s Q k n) (T.setTop (mkF m pc ls (.long z :: rest))) :=
  Go.fin C X eT (v := some (.long z)) (fun h => nomatch h) hQ hc hn fun fs hr => retOut X C.hx C.hret rfl (Or.inr (Or.inl ⟨rfl, rfl, z, rfl⟩)) (hb C.hby hd) hr
theorem Go.retA {t : FieldType} (C : Cx p s m meth c Z own bytes maxL (some t) nm) (X : Stand p l e R s m args below meth c T locs cells slots) (eT : T.heap = h) {pc : Nat} {ls : Array Slot} {w : Value} {rest : List Value} {Q : Option Value → Heap → List Loc → Prop} {k n : Nat} (ht : t.isReference = true) (hn0 : narrow t w = w) (hw : w.isRef = true) (hd : decode bytes pc = .ok (.areturn, 1)) (hc : cells ≤ k) (hn : slots ≤ n) (hQ : Q (some w) h locs) : Go p e below (EndQ s Q k n) (T.setTop (mkF m pc ls (w :: rest))) :=
  Go.fin C X eT (v := some w) (fun h => nomatch h) hQ hc hn fun fs hr => retOut X C.hx C.hret hn0 (Or.inr (Or.inr (Or.inr (Or.inr ⟨rfl, ht, hw⟩)))) (hb C.hby hd) hr
theorem Go.retN {t : FieldType} (C : Cx p s m meth c Z own bytes maxL (some t) nm) (X : Stand p l e R s m args below meth c T locs cells slots) (eT : T.heap = h) {pc : Nat} {ls : Array Slot} {z w : Int32} {rest : List Value} {Q : Option Value → Heap → List Loc → Prop} {k n : Nat} (ht : t = .boolean ∨ t = .byte ∨ t = .char ∨ t = .short) (hw : nar t z = w) (hd : decode bytes pc = .ok (.ireturn, 1)) (hc : cells ≤ k) (hn : slots ≤ n) (hQ : Q (some (.int w)) h locs) : Go p e below (EndQ s Q k n) (T.setTop (mkF m pc ls (.int z :: rest))) := by
  subst hw
  exact Go.fin C X eT (v := some (.int (nar t z))) (fun h => nomatch h) hQ hc hn fun fs hr => Jvm.RoadKit.retN X C.hx C.hret ht (hb C.hby hd) hr
theorem Go.iloadN (C : Cx p s m meth c Z own bytes maxL ret nm) (X : Stand p l e R s m args below meth c T locs cells slots) {pc n : Nat} {ls : Array Slot} {rest : List Value} {k : Fin 4} {v : Int32} (hd : decode bytes pc = .ok (.iload_n k, 1)) (hn : pc + 1 = n) (hl : ls[k.val]? = some (.val (.int v))) (k : Go p e below K (T.setTop (mkF m n ls (.int v :: rest)))) : Go p e below K (T.setTop (mkF m pc ls (rest))) := by
  subst hn
  exact Go.of (fun t q => XS.iloadN X.here C.hx rfl (hb C.hby hd) hl q) k
theorem Go.iload (C : Cx p s m meth c Z own bytes maxL ret nm) (X : Stand p l e R s m args below meth c T locs cells slots) {pc n : Nat} {ls : Array Slot} {rest : List Value} {k : Nat} {v : Int32} (hd : decode bytes pc = .ok (.iload k, 2)) (hn : pc + 2 = n) (hl : ls[k]? = some (.val (.int v))) (k : Go p e below K (T.setTop (mkF m n ls (.int v :: rest)))) : Go p e below K (T.setTop (mkF m pc ls (rest))) := by
  subst hn
  exact Go.of (fun t q => XS.iload X.here C.hx rfl (hb C.hby hd) hl q) k
theorem Go.istoreN (C : Cx p s m meth c Z own bytes maxL ret nm) (X : Stand p l e R s m args below meth c T locs cells slots) {pc n : Nat} {ls : Array Slot} {rest : List Value} {k : Fin 4} {v : Int32} {l' : Array Slot} (hd : decode bytes pc = .ok (.istore_n k, 1)) (hn : pc + 1 = n) (hl : storeLocals ls k.val (.int v) = some l') (k : Go p e below K (T.setTop (mkF m n l' (rest)))) : Go p e below K (T.setTop (mkF m pc ls (.int v :: rest))) := by
  subst hn
  exact Go.of (fun t q => XS.istoreN X.here C.hx rfl (hb C.hby hd) rfl hl q) k
theorem Go.istore (C : Cx p s m meth c Z own bytes maxL ret nm) (X : Stand p l e R s m args below meth c T locs cells slots) {pc n : Nat} {ls : Array Slot} {rest : List Value} {k : Nat} {v : Int32} {l' : Array Slot} (hd : decode bytes pc = .ok (.istore k, 2)) (hn : pc + 2 = n) (hl : storeLocals ls k (.int v) = some l') (k : Go p e below K (T.setTop (mkF m n l' (rest)))) : Go p e below K (T.setTop (mkF m pc ls (.int v :: rest))) := by
  subst hn
  exact Go.of (fun t q => XS.istore X.here C.hx rfl (hb C.hby hd) rfl hl q) k
theorem Go.lloadN (C : Cx p s m meth c Z own bytes maxL ret nm) (X : Stand p l e R s m args below meth c T locs cells slots) {pc n : Nat} {ls : Array Slot} {rest : List Value} {k : Fin 4} {v : Int64} (hd : decode bytes pc = .ok (.lload_n k, 1)) (hn : pc + 1 = n) (hl : ls[k.val]? = some (.val (.long v))) (k : Go p e below K (T.setTop (mkF m n ls (.long v :: rest)))) : Go p e below K (T.setTop (mkF m pc ls (rest))) := by
  subst hn
  exact Go.of (fun t q => XT.lloadN X.here C.hx rfl (hb C.hby hd) hl q) k
theorem Go.lload (C : Cx p s m meth c Z own bytes maxL ret nm) (X : Stand p l e R s m args below meth c T locs cells slots) {pc n : Nat} {ls : Array Slot} {rest : List Value} {k : Nat} {v : Int64} (hd : decode bytes pc = .ok (.lload k, 2)) (hn : pc + 2 = n) (hl : ls[k]? = some (.val (.long v))) (k : Go p e below K (T.setTop (mkF m n ls (.long v :: rest)))) : Go p e below K (T.setTop (mkF m pc ls (rest))) := by
  subst hn
  exact Go.of (fun t q => XT.lload X.here C.hx rfl (hb C.hby hd) hl q) k
theorem Go.lstoreN (C : Cx p s m meth c Z own bytes maxL ret nm) (X : Stand p l e R s m args below meth c T locs cells slots) {pc n : Nat} {ls : Array Slot} {rest : List Value} {k : Fin 4} {v : Int64} {l' : Array Slot} (hd : decode bytes pc = .ok (.lstore_n k, 1)) (hn : pc + 1 = n) (hl : storeLocals ls k.val (.long v) = some l') (k : Go p e below K (T.setTop (mkF m n l' (rest)))) : Go p e below K (T.setTop (mkF m pc ls (.long v :: rest))) := by
  subst hn
  exact Go.of (fun t q => XT.lstoreN X.here C.hx rfl (hb C.hby hd) rfl hl q) k
theorem Go.lstore (C : Cx p s m meth c Z own bytes maxL ret nm) (X : Stand p l e R s m args below meth c T locs cells slots) {pc n : Nat} {ls : Array Slot} {rest : List Value} {k : Nat} {v : Int64} {l' : Array Slot} (hd : decode bytes pc = .ok (.lstore k, 2)) (hn : pc + 2 = n) (hl : storeLocals ls k (.long v) = some l') (k : Go p e below K (T.setTop (mkF m n l' (rest)))) : Go p e below K (T.setTop (mkF m pc ls (.long v :: rest))) := by
  subst hn
  exact Go.of (fun t q => XT.lstore X.here C.hx rfl (hb C.hby hd) rfl hl q) k
theorem Go.aloadN (C : Cx p s m meth c Z own bytes maxL ret nm) (X : Stand p l e R s m args below meth c T locs cells slots) {pc n : Nat} {ls : Array Slot} {rest : List Value} {k : Fin 4} {v : Value} (hd : decode bytes pc = .ok (.aload_n k, 1)) (hn : pc + 1 = n) (hl : ls[k.val]? = some (.val v)) (hv : v.isRef = true) (k : Go p e below K (T.setTop (mkF m n ls (v :: rest)))) : Go p e below K (T.setTop (mkF m pc ls (rest))) := by
  subst hn
  exact Go.of (fun t q => XS.aloadN X.here C.hx rfl (hb C.hby hd) hl hv q) k
theorem Go.aload (C : Cx p s m meth c Z own bytes maxL ret nm) (X : Stand p l e R s m args below meth c T locs cells slots) {pc n : Nat} {ls : Array Slot} {rest : List Value} {k : Nat} {v : Value} (hd : decode bytes pc = .ok (.aload k, 2)) (hn : pc + 2 = n) (hl : ls[k]? = some (.val v)) (hv : v.isRef = true) (k : Go p e below K (T.setTop (mkF m n ls (v :: rest)))) : Go p e below K (T.setTop (mkF m pc ls (rest))) := by
  subst hn
  exact Go.of (fun t q => XS.aload X.here C.hx rfl (hb C.hby hd) hl hv q) k
theorem Go.astoreN (C : Cx p s m meth c Z own bytes maxL ret nm) (X : Stand p l e R s m args below meth c T locs cells slots) {pc n : Nat} {ls : Array Slot} {rest : List Value} {k : Fin 4} {v : Value} {l' : Array Slot} (hd : decode bytes pc = .ok (.astore_n k, 1)) (hn : pc + 1 = n) (hv : v.isRef = true) (hl : storeLocals ls k.val v = some l') (k : Go p e below K (T.setTop (mkF m n l' (rest)))) : Go p e below K (T.setTop (mkF m pc ls (v :: rest))) := by
  subst hn
  exact Go.of (fun t q => XS.astoreN X.here C.hx rfl (hb C.hby hd) rfl hv hl q) k
theorem Go.astore (C : Cx p s m meth c Z own bytes maxL ret nm) (X : Stand p l e R s m args below meth c T locs cells slots) {pc n : Nat} {ls : Array Slot} {rest : List Value} {k : Nat} {v : Value} {l' : Array Slot} (hd : decode bytes pc = .ok (.astore k, 2)) (hn : pc + 2 = n) (hv : v.isRef = true) (hl : storeLocals ls k v = some l') (k : Go p e below K (T.setTop (mkF m n l' (rest)))) : Go p e below K (T.setTop (mkF m pc ls (v :: rest))) := by
  subst hn
  exact Go.of (fun t q => XS.astore X.here C.hx rfl (hb C.hby hd) rfl hv hl q) k
theorem Go.iconst (C : Cx p s m meth c Z own bytes maxL ret nm) (X : Stand p l e R s m args below meth c T locs cells slots) {pc n : Nat} {ls : Array Slot} {rest : List Value} {i : Int} {v : Int32} (hd : decode bytes pc = .ok (.iconst i, 1)) (hn : pc + 1 = n) (hv : Int32.ofInt i = v) (k : Go p e below K (T.setTop (mkF m n ls (.int v :: rest)))) : Go p e below K (T.setTop (mkF m pc ls (rest))) := by
  subst hn
  exact Go.of (fun t q => XT.iconstV X.here C.hx rfl v (hb C.hby hd) hv q) k
theorem Go.bipush (C : Cx p s m meth c Z own bytes maxL ret nm) (X : Stand p l e R s m args below meth c T locs cells slots) {pc n : Nat} {ls : Array Slot} {rest : List Value} {i : Int} {v : Int32} (hd : decode bytes pc = .ok (.bipush i, 2)) (hn : pc + 2 = n) (hv : (Int8.ofInt i).toInt32 = v) (k : Go p e below K (T.setTop (mkF m n ls (.int v :: rest)))) : Go p e below K (T.setTop (mkF m pc ls (rest))) := by
  subst hn
  exact Go.of (fun t q => XT.bipushV X.here C.hx rfl v (hb C.hby hd) hv q) k
theorem Go.sipush (C : Cx p s m meth c Z own bytes maxL ret nm) (X : Stand p l e R s m args below meth c T locs cells slots) {pc n : Nat} {ls : Array Slot} {rest : List Value} {i : Int} {v : Int32} (hd : decode bytes pc = .ok (.sipush i, 3)) (hn : pc + 3 = n) (hv : (Int16.ofInt i).toInt32 = v) (k : Go p e below K (T.setTop (mkF m n ls (.int v :: rest)))) : Go p e below K (T.setTop (mkF m pc ls (rest))) := by
  subst hn
  exact Go.of (fun t q => XT.sipushV X.here C.hx rfl v (hb C.hby hd) hv q) k
theorem Go.lconst (C : Cx p s m meth c Z own bytes maxL ret nm) (X : Stand p l e R s m args below meth c T locs cells slots) {pc n : Nat} {ls : Array Slot} {rest : List Value} {i : Fin 2} {v : Int64} (hd : decode bytes pc = .ok (.lconst i, 1)) (hn : pc + 1 = n) (hv : Int64.ofNat i = v) (k : Go p e below K (T.setTop (mkF m n ls (.long v :: rest)))) : Go p e below K (T.setTop (mkF m pc ls (rest))) := by
  subst hn
  exact Go.of (fun t q => XT.lconstV X.here C.hx rfl v (hb C.hby hd) hv q) k
theorem Go.aconstNull (C : Cx p s m meth c Z own bytes maxL ret nm) (X : Stand p l e R s m args below meth c T locs cells slots) {pc n : Nat} {ls : Array Slot} {rest : List Value}  (hd : decode bytes pc = .ok (.aconst_null, 1)) (hn : pc + 1 = n) (k : Go p e below K (T.setTop (mkF m n ls (.null :: rest)))) : Go p e below K (T.setTop (mkF m pc ls (rest))) := by
  subst hn
  exact Go.of (fun t q => XS.aconstNull X.here C.hx rfl (hb C.hby hd) q) k
theorem Go.iadd (C : Cx p s m meth c Z own bytes maxL ret nm) (X : Stand p l e R s m args below meth c T locs cells slots) {pc n : Nat} {ls : Array Slot} {rest : List Value} {x y : Int32} (hd : decode bytes pc = .ok (.iadd, 1)) (hn : pc + 1 = n) (k : Go p e below K (T.setTop (mkF m n ls (.int (x + y) :: rest)))) : Go p e below K (T.setTop (mkF m pc ls (.int y :: .int x :: rest))) := by
  subst hn
  exact Go.of (fun t q => XS.iadd X.here C.hx rfl (hb C.hby hd) rfl q) k
theorem Go.ladd (C : Cx p s m meth c Z own bytes maxL ret nm) (X : Stand p l e R s m args below meth c T locs cells slots) {pc n : Nat} {ls : Array Slot} {rest : List Value} {x y : Int64} (hd : decode bytes pc = .ok (.ladd, 1)) (hn : pc + 1 = n) (k : Go p e below K (T.setTop (mkF m n ls (.long (x + y) :: rest)))) : Go p e below K (T.setTop (mkF m pc ls (.long y :: .long x :: rest))) := by
  subst hn
  exact Go.of (fun t q => XT.ladd X.here C.hx rfl (hb C.hby hd) rfl q) k
theorem Go.isub (C : Cx p s m meth c Z own bytes maxL ret nm) (X : Stand p l e R s m args below meth c T locs cells slots) {pc n : Nat} {ls : Array Slot} {rest : List Value} {x y : Int32} (hd : decode bytes pc = .ok (.isub, 1)) (hn : pc + 1 = n) (k : Go p e below K (T.setTop (mkF m n ls (.int (x - y) :: rest)))) : Go p e below K (T.setTop (mkF m pc ls (.int y :: .int x :: rest))) := by
  subst hn
  exact Go.of (fun t q => XS.isub X.here C.hx rfl (hb C.hby hd) rfl q) k
theorem Go.lsub (C : Cx p s m meth c Z own bytes maxL ret nm) (X : Stand p l e R s m args below meth c T locs cells slots) {pc n : Nat} {ls : Array Slot} {rest : List Value} {x y : Int64} (hd : decode bytes pc = .ok (.lsub, 1)) (hn : pc + 1 = n) (k : Go p e below K (T.setTop (mkF m n ls (.long (x - y) :: rest)))) : Go p e below K (T.setTop (mkF m pc ls (.long y :: .long x :: rest))) := by
  subst hn
  exact Go.of (fun t q => XT.lsub X.here C.hx rfl (hb C.hby hd) rfl q) k
theorem Go.imul (C : Cx p s m meth c Z own bytes maxL ret nm) (X : Stand p l e R s m args below meth c T locs cells slots) {pc n : Nat} {ls : Array Slot} {rest : List Value} {x y : Int32} (hd : decode bytes pc = .ok (.imul, 1)) (hn : pc + 1 = n) (k : Go p e below K (T.setTop (mkF m n ls (.int (x * y) :: rest)))) : Go p e below K (T.setTop (mkF m pc ls (.int y :: .int x :: rest))) := by
  subst hn
  exact Go.of (fun t q => XS.imul X.here C.hx rfl (hb C.hby hd) rfl q) k
theorem Go.lmul (C : Cx p s m meth c Z own bytes maxL ret nm) (X : Stand p l e R s m args below meth c T locs cells slots) {pc n : Nat} {ls : Array Slot} {rest : List Value} {x y : Int64} (hd : decode bytes pc = .ok (.lmul, 1)) (hn : pc + 1 = n) (k : Go p e below K (T.setTop (mkF m n ls (.long (x * y) :: rest)))) : Go p e below K (T.setTop (mkF m pc ls (.long y :: .long x :: rest))) := by
  subst hn
  exact Go.of (fun t q => XT.lmul X.here C.hx rfl (hb C.hby hd) rfl q) k
theorem Go.iand (C : Cx p s m meth c Z own bytes maxL ret nm) (X : Stand p l e R s m args below meth c T locs cells slots) {pc n : Nat} {ls : Array Slot} {rest : List Value} {x y : Int32} (hd : decode bytes pc = .ok (.iand, 1)) (hn : pc + 1 = n) (k : Go p e below K (T.setTop (mkF m n ls (.int (x &&& y) :: rest)))) : Go p e below K (T.setTop (mkF m pc ls (.int y :: .int x :: rest))) := by
  subst hn
  exact Go.of (fun t q => XS.iand X.here C.hx rfl (hb C.hby hd) rfl q) k
theorem Go.land (C : Cx p s m meth c Z own bytes maxL ret nm) (X : Stand p l e R s m args below meth c T locs cells slots) {pc n : Nat} {ls : Array Slot} {rest : List Value} {x y : Int64} (hd : decode bytes pc = .ok (.land, 1)) (hn : pc + 1 = n) (k : Go p e below K (T.setTop (mkF m n ls (.long (x &&& y) :: rest)))) : Go p e below K (T.setTop (mkF m pc ls (.long y :: .long x :: rest))) := by
  subst hn
  exact Go.of (fun t q => XT.land X.here C.hx rfl (hb C.hby hd) rfl q) k
theorem Go.ior (C : Cx p s m meth c Z own bytes maxL ret nm) (X : Stand p l e R s m args below meth c T locs cells slots) {pc n : Nat} {ls : Array Slot} {rest : List Value} {x y : Int32} (hd : decode bytes pc = .ok (.ior, 1)) (hn : pc + 1 = n) (k : Go p e below K (T.setTop (mkF m n ls (.int (x ||| y) :: rest)))) : Go p e below K (T.setTop (mkF m pc ls (.int y :: .int x :: rest))) := by
  subst hn
  exact Go.of (fun t q => XT.ior X.here C.hx rfl (hb C.hby hd) rfl q) k
theorem Go.lor (C : Cx p s m meth c Z own bytes maxL ret nm) (X : Stand p l e R s m args below meth c T locs cells slots) {pc n : Nat} {ls : Array Slot} {rest : List Value} {x y : Int64} (hd : decode bytes pc = .ok (.lor, 1)) (hn : pc + 1 = n) (k : Go p e below K (T.setTop (mkF m n ls (.long (x ||| y) :: rest)))) : Go p e below K (T.setTop (mkF m pc ls (.long y :: .long x :: rest))) := by
  subst hn
  exact Go.of (fun t q => XT.lor X.here C.hx rfl (hb C.hby hd) rfl q) k
theorem Go.ixor (C : Cx p s m meth c Z own bytes maxL ret nm) (X : Stand p l e R s m args below meth c T locs cells slots) {pc n : Nat} {ls : Array Slot} {rest : List Value} {x y : Int32} (hd : decode bytes pc = .ok (.ixor, 1)) (hn : pc + 1 = n) (k : Go p e below K (T.setTop (mkF m n ls (.int (x ^^^ y) :: rest)))) : Go p e below K (T.setTop (mkF m pc ls (.int y :: .int x :: rest))) := by
  subst hn
  exact Go.of (fun t q => XT.ixor X.here C.hx rfl (hb C.hby hd) rfl q) k
theorem Go.lxor (C : Cx p s m meth c Z own bytes maxL ret nm) (X : Stand p l e R s m args below meth c T locs cells slots) {pc n : Nat} {ls : Array Slot} {rest : List Value} {x y : Int64} (hd : decode bytes pc = .ok (.lxor, 1)) (hn : pc + 1 = n) (k : Go p e below K (T.setTop (mkF m n ls (.long (x ^^^ y) :: rest)))) : Go p e below K (T.setTop (mkF m pc ls (.long y :: .long x :: rest))) := by
  subst hn
  exact Go.of (fun t q => XT.lxor X.here C.hx rfl (hb C.hby hd) rfl q) k
theorem Go.ishl (C : Cx p s m meth c Z own bytes maxL ret nm) (X : Stand p l e R s m args below meth c T locs cells slots) {pc n : Nat} {ls : Array Slot} {rest : List Value} {x y : Int32} (hd : decode bytes pc = .ok (.ishl, 1)) (hn : pc + 1 = n) (k : Go p e below K (T.setTop (mkF m n ls (.int (x <<< (y &&& 31)) :: rest)))) : Go p e below K (T.setTop (mkF m pc ls (.int y :: .int x :: rest))) := by
  subst hn
  exact Go.of (fun t q => XT.ishl X.here C.hx rfl (hb C.hby hd) rfl q) k
theorem Go.ishr (C : Cx p s m meth c Z own bytes maxL ret nm) (X : Stand p l e R s m args below meth c T locs cells slots) {pc n : Nat} {ls : Array Slot} {rest : List Value} {x y : Int32} (hd : decode bytes pc = .ok (.ishr, 1)) (hn : pc + 1 = n) (k : Go p e below K (T.setTop (mkF m n ls (.int (x >>> (y &&& 31)) :: rest)))) : Go p e below K (T.setTop (mkF m pc ls (.int y :: .int x :: rest))) := by
  subst hn
  exact Go.of (fun t q => XT.ishr X.here C.hx rfl (hb C.hby hd) rfl q) k
theorem Go.iushr (C : Cx p s m meth c Z own bytes maxL ret nm) (X : Stand p l e R s m args below meth c T locs cells slots) {pc n : Nat} {ls : Array Slot} {rest : List Value} {x y : Int32} (hd : decode bytes pc = .ok (.iushr, 1)) (hn : pc + 1 = n) (k : Go p e below K (T.setTop (mkF m n ls (.int (XT.ushr x y) :: rest)))) : Go p e below K (T.setTop (mkF m pc ls (.int y :: .int x :: rest))) := by
  subst hn
  exact Go.of (fun t q => XT.iushr X.here C.hx rfl (hb C.hby hd) rfl q) k
theorem Go.idiv (C : Cx p s m meth c Z own bytes maxL ret nm) (X : Stand p l e R s m args below meth c T locs cells slots) {pc n : Nat} {ls : Array Slot} {rest : List Value} {x y : Int32} (hd : decode bytes pc = .ok (.idiv, 1)) (hn : pc + 1 = n) (hy : y ≠ 0) (k : Go p e below K (T.setTop (mkF m n ls (.int (x / y) :: rest)))) : Go p e below K (T.setTop (mkF m pc ls (.int y :: .int x :: rest))) := by
  subst hn
  exact Go.of (fun t q => XS.idiv X.here C.hx rfl (hb C.hby hd) rfl hy q) k
theorem Go.irem (C : Cx p s m meth c Z own bytes maxL ret nm) (X : Stand p l e R s m args below meth c T locs cells slots) {pc n : Nat} {ls : Array Slot} {rest : List Value} {x y : Int32} (hd : decode bytes pc = .ok (.irem, 1)) (hn : pc + 1 = n) (hy : y ≠ 0) (k : Go p e below K (T.setTop (mkF m n ls (.int (x % y) :: rest)))) : Go p e below K (T.setTop (mkF m pc ls (.int y :: .int x :: rest))) := by
  subst hn
  exact Go.of (fun t q => iremM X C.hx rfl (hb C.hby hd) rfl hy q) k
theorem Go.ldiv (C : Cx p s m meth c Z own bytes maxL ret nm) (X : Stand p l e R s m args below meth c T locs cells slots) {pc n : Nat} {ls : Array Slot} {rest : List Value} {x y : Int64} (hd : decode bytes pc = .ok (.ldiv, 1)) (hn : pc + 1 = n) (hy : y ≠ 0) (k : Go p e below K (T.setTop (mkF m n ls (.long (x / y) :: rest)))) : Go p e below K (T.setTop (mkF m pc ls (.long y :: .long x :: rest))) := by
  subst hn
  exact Go.of (fun t q => XT.ldiv X.here C.hx rfl (hb C.hby hd) rfl hy q) k
theorem Go.lrem (C : Cx p s m meth c Z own bytes maxL ret nm) (X : Stand p l e R s m args below meth c T locs cells slots) {pc n : Nat} {ls : Array Slot} {rest : List Value} {x y : Int64} (hd : decode bytes pc = .ok (.lrem, 1)) (hn : pc + 1 = n) (hy : y ≠ 0) (k : Go p e below K (T.setTop (mkF m n ls (.long (x - (x / y) * y) :: rest)))) : Go p e below K (T.setTop (mkF m pc ls (.long y :: .long x :: rest))) := by
  subst hn
  exact Go.of (fun t q => XT.lrem X.here C.hx rfl (hb C.hby hd) rfl hy q) k
theorem Go.ineg (C : Cx p s m meth c Z own bytes maxL ret nm) (X : Stand p l e R s m args below meth c T locs cells slots) {pc n : Nat} {ls : Array Slot} {rest : List Value} {x : Int32} (hd : decode bytes pc = .ok (.ineg, 1)) (hn : pc + 1 = n) (k : Go p e below K (T.setTop (mkF m n ls (.int (-x) :: rest)))) : Go p e below K (T.setTop (mkF m pc ls (.int x :: rest))) := by
  subst hn
  exact Go.of (fun t q => XS.ineg X.here C.hx rfl (hb C.hby hd) rfl q) k
theorem Go.i2l (C : Cx p s m meth c Z own bytes maxL ret nm) (X : Stand p l e R s m args below meth c T locs cells slots) {pc n : Nat} {ls : Array Slot} {rest : List Value} {x : Int32} (hd : decode bytes pc = .ok (.i2l, 1)) (hn : pc + 1 = n) (k : Go p e below K (T.setTop (mkF m n ls (.long (x.toInt64) :: rest)))) : Go p e below K (T.setTop (mkF m pc ls (.int x :: rest))) := by
  subst hn
  exact Go.of (fun t q => XT.i2l X.here C.hx rfl (hb C.hby hd) rfl q) k
theorem Go.i2b (C : Cx p s m meth c Z own bytes maxL ret nm) (X : Stand p l e R s m args below meth c T locs cells slots) {pc n : Nat} {ls : Array Slot} {rest : List Value} {x : Int32} (hd : decode bytes pc = .ok (.i2b, 1)) (hn : pc + 1 = n) (k : Go p e below K (T.setTop (mkF m n ls (.int (x.toInt8.toInt32) :: rest)))) : Go p e below K (T.setTop (mkF m pc ls (.int x :: rest))) := by
  subst hn
  exact Go.of (fun t q => XT.i2b X.here C.hx rfl (hb C.hby hd) rfl q) k
theorem Go.i2c (C : Cx p s m meth c Z own bytes maxL ret nm) (X : Stand p l e R s m args below meth c T locs cells slots) {pc n : Nat} {ls : Array Slot} {rest : List Value} {x : Int32} (hd : decode bytes pc = .ok (.i2c, 1)) (hn : pc + 1 = n) (k : Go p e below K (T.setTop (mkF m n ls (.int (x.toUInt32.toUInt16.toUInt32.toInt32) :: rest)))) : Go p e below K (T.setTop (mkF m pc ls (.int x :: rest))) := by
  subst hn
  exact Go.of (fun t q => XT.i2c X.here C.hx rfl (hb C.hby hd) rfl q) k
theorem Go.i2s (C : Cx p s m meth c Z own bytes maxL ret nm) (X : Stand p l e R s m args below meth c T locs cells slots) {pc n : Nat} {ls : Array Slot} {rest : List Value} {x : Int32} (hd : decode bytes pc = .ok (.i2s, 1)) (hn : pc + 1 = n) (k : Go p e below K (T.setTop (mkF m n ls (.int (x.toInt16.toInt32) :: rest)))) : Go p e below K (T.setTop (mkF m pc ls (.int x :: rest))) := by
  subst hn
  exact Go.of (fun t q => XT.i2s X.here C.hx rfl (hb C.hby hd) rfl q) k
theorem Go.l2i (C : Cx p s m meth c Z own bytes maxL ret nm) (X : Stand p l e R s m args below meth c T locs cells slots) {pc n : Nat} {ls : Array Slot} {rest : List Value} {x : Int64} (hd : decode bytes pc = .ok (.l2i, 1)) (hn : pc + 1 = n) (k : Go p e below K (T.setTop (mkF m n ls (.int (x.toInt32) :: rest)))) : Go p e below K (T.setTop (mkF m pc ls (.long x :: rest))) := by
  subst hn
  exact Go.of (fun t q => XT.l2i X.here C.hx rfl (hb C.hby hd) rfl q) k
theorem Go.lcmp (C : Cx p s m meth c Z own bytes maxL ret nm) (X : Stand p l e R s m args below meth c T locs cells slots) {pc n : Nat} {ls : Array Slot} {rest : List Value} {x y : Int64} (hd : decode bytes pc = .ok (.lcmp, 1)) (hn : pc + 1 = n) (k : Go p e below K (T.setTop (mkF m n ls (.int (XT.cmpL x y) :: rest)))) : Go p e below K (T.setTop (mkF m pc ls (.long y :: .long x :: rest))) := by
  subst hn
  exact Go.of (fun t q => XT.lcmp X.here C.hx rfl (hb C.hby hd) rfl q) k
theorem Go.iinc (C : Cx p s m meth c Z own bytes maxL ret nm) (X : Stand p l e R s m args below meth c T locs cells slots) {pc n : Nat} {ls : Array Slot} {rest : List Value} {k : Nat} {cst : Int} {x v : Int32} {l' : Array Slot} (hd : decode bytes pc = .ok (.iinc k cst, 3)) (hn : pc + 3 = n) (hv : Int32.ofInt cst = v) (hl : ls[k]? = some (.val (.int x))) (hl' : storeLocals ls k (.int (x + v)) = some l') (k : Go p e below K (T.setTop (mkF m n l' (rest)))) : Go p e below K (T.setTop (mkF m pc ls (rest))) := by
  subst hn
  exact Go.of (fun t q => XT.iincV X.here C.hx rfl v (hb C.hby hd) hv hl hl' q) k
theorem Go.dup (C : Cx p s m meth c Z own bytes maxL ret nm) (X : Stand p l e R s m args below meth c T locs cells slots) {pc n : Nat} {ls : Array Slot} {rest : List Value} {x : Value} (hd : decode bytes pc = .ok (.dup, 1)) (hn : pc + 1 = n) (hc : x.category = 1) (k : Go p e below K (T.setTop (mkF m n ls (x :: x :: rest)))) : Go p e below K (T.setTop (mkF m pc ls (x :: rest))) := by
  subst hn
  exact Go.of (fun t q => XS.dup X.here C.hx rfl (hb C.hby hd) rfl hc q) k
theorem Go.dupX1 (C : Cx p s m meth c Z own bytes maxL ret nm) (X : Stand p l e R s m args below meth c T locs cells slots) {pc n : Nat} {ls : Array Slot} {rest : List Value} {x y : Value} (hd : decode bytes pc = .ok (.dup_x1, 1)) (hn : pc + 1 = n) (hc : x.category = 1) (hc' : y.category = 1) (k : Go p e below K (T.setTop (mkF m n ls (x :: y :: x :: rest)))) : Go p e below K (T.setTop (mkF m pc ls (x :: y :: rest))) := by
  subst hn
  exact Go.of (fun t q => XT.dupX1 X.here C.hx rfl (hb C.hby hd) rfl hc hc' q) k
theorem Go.dup2 (C : Cx p s m meth c Z own bytes maxL ret nm) (X : Stand p l e R s m args below meth c T locs cells slots) {pc n : Nat} {ls : Array Slot} {rest : List Value} {x y : Value} (hd : decode bytes pc = .ok (.dup2, 1)) (hn : pc + 1 = n) (hc : x.category = 1) (hc' : y.category = 1) (k : Go p e below K (T.setTop (mkF m n ls (x :: y :: x :: y :: rest)))) : Go p e below K (T.setTop (mkF m pc ls (x :: y :: rest))) := by
  subst hn
  exact Go.of (fun t q => XT.dup2 X.here C.hx rfl (hb C.hby hd) rfl hc hc' q) k
theorem Go.pop (C : Cx p s m meth c Z own bytes maxL ret nm) (X : Stand p l e R s m args below meth c T locs cells slots) {pc n : Nat} {ls : Array Slot} {rest : List Value} {x : Value} (hd : decode bytes pc = .ok (.pop, 1)) (hn : pc + 1 = n) (hc : x.category = 1) (k : Go p e below K (T.setTop (mkF m n ls (rest)))) : Go p e below K (T.setTop (mkF m pc ls (x :: rest))) := by
  subst hn
  exact Go.of (fun t q => XT.pop X.here C.hx rfl (hb C.hby hd) rfl hc q) k
theorem Go.dupX2 (C : Cx p s m meth c Z own bytes maxL ret nm) (X : Stand p l e R s m args below meth c T locs cells slots) {pc n : Nat} {ls : Array Slot} {rest : List Value} {x y z : Value} (hd : decode bytes pc = .ok (.dup_x2, 1)) (hn : pc + 1 = n) (hc : x.category = 1) (hc' : y.category = 1) (hc'' : z.category = 1) (k : Go p e below K (T.setTop (mkF m n ls (x :: y :: z :: x :: rest)))) : Go p e below K (T.setTop (mkF m pc ls (x :: y :: z :: rest))) := by
  subst hn
  exact Go.of (fun t q => by jvm_step X.here [X.here.top, C.hx, (hb C.hby hd), hc, hc', hc'']; exact q) k
theorem Go.goto (C : Cx p s m meth c Z own bytes maxL ret nm) (X : Stand p l e R s m args below meth c T locs cells slots) {pc n : Nat} {ls : Array Slot} {rest : List Value} {o : Int} (hd : decode bytes pc = .ok (.goto o, 3)) (ho : 0 ≤ (pc : Int) + o) (hn : ((pc : Int) + o).toNat = n) (k : Go p e below K (T.setTop (mkF m n ls rest))) : Go p e below K (T.setTop (mkF m pc ls rest)) :=
  Go.of (fun t q => XS.goto X.here C.hx rfl rfl (hb C.hby hd) ho hn q) k
theorem Go.ldcI (C : Cx p s m meth c Z own bytes maxL ret nm) (X : Stand p l e R s m args below meth c T locs cells slots) {pc n : Nat} {ls : Array Slot} {rest : List Value} {index : Nat} {v : Int32} (w : (Cond.constant own index v).before a0 Z = true) (hd : decode bytes pc = .ok (.ldc index, 2)) (hn : pc + 2 = n) (k : Go p e below K (T.setTop (mkF m n ls (.int v :: rest)))) : Go p e below K (T.setTop (mkF m pc ls rest)) := by
  subst hn
  exact Go.of (fun t q => Jvm.Stand.ldcI X C.hx C.hown (mv C.hZ w) rfl (hb C.hby hd) q) k
theorem Go.icmp_eq (C : Cx p s m meth c Z own bytes maxL ret nm) (X : Stand p l e R s m args below meth c T locs cells slots) {pc n1 n2 : Nat} {ls : Array Slot} {rest : List Value} {x y : Int32} {o : Int} (hd : decode bytes pc = .ok (.if_icmp .eq o, 3)) (ho : 0 ≤ (pc : Int) + o) (h1 : ((pc : Int) + o).toNat = n1) (h2 : pc + 3 = n2)
    (ky : x = y → Go p e below K (T.setTop (mkF m n1 ls rest))) (kn : ¬ x = y → Go p e below K (T.setTop (mkF m n2 ls rest))) : Go p e below K (T.setTop (mkF m pc ls (.int y :: .int x :: rest))) := by
  subst h2
  by_cases q : x = y
  · exact Go.of (fun t z => XS.icmpYes X.here C.hx rfl rfl (hb C.hby hd) rfl (XT.ii_eq_t q) ho h1 z) (ky q)
  · exact Go.of (fun t z => XS.icmpNo X.here C.hx rfl (hb C.hby hd) rfl (XT.ii_eq_f q) z) (kn q)
theorem Go.if0_eq (C : Cx p s m meth c Z own bytes maxL ret nm) (X : Stand p l e R s m args below meth c T locs cells slots) {pc n1 n2 : Nat} {ls : Array Slot} {rest : List Value} {x : Int32} {o : Int} (hd : decode bytes pc = .ok (.ifCond .eq o, 3)) (ho : 0 ≤ (pc : Int) + o) (h1 : ((pc : Int) + o).toNat = n1) (h2 : pc + 3 = n2)
    (ky : x = 0 → Go p e below K (T.setTop (mkF m n1 ls rest))) (kn : ¬ x = 0 → Go p e below K (T.setTop (mkF m n2 ls rest))) : Go p e below K (T.setTop (mkF m pc ls (.int x :: rest))) := by
  subst h2
  by_cases q : x = 0
  · exact Go.of (fun t z => XS.ifYes X.here C.hx rfl rfl (hb C.hby hd) rfl (XT.i0_eq_t q) ho h1 z) (ky q)
  · exact Go.of (fun t z => XS.ifNo X.here C.hx rfl (hb C.hby hd) rfl (XT.i0_eq_f q) z) (kn q)
theorem Go.lcmp_eq (C : Cx p s m meth c Z own bytes maxL ret nm) (X : Stand p l e R s m args below meth c T locs cells slots) {pc n1 n2 : Nat} {ls : Array Slot} {rest : List Value} {x y : Int64} {o : Int} (hd : decode bytes pc = .ok (.ifCond .eq o, 3)) (ho : 0 ≤ (pc : Int) + o) (h1 : ((pc : Int) + o).toNat = n1) (h2 : pc + 3 = n2)
    (ky : x = y → Go p e below K (T.setTop (mkF m n1 ls rest))) (kn : ¬ x = y → Go p e below K (T.setTop (mkF m n2 ls rest))) : Go p e below K (T.setTop (mkF m pc ls (.int (XT.cmpL x y) :: rest))) := by
  subst h2
  by_cases q : x = y
  · exact Go.of (fun t z => XS.ifYes X.here C.hx rfl rfl (hb C.hby hd) rfl (XT.ll_eq_t q) ho h1 z) (ky q)
  · exact Go.of (fun t z => XS.ifNo X.here C.hx rfl (hb C.hby hd) rfl (XT.ll_eq_f q) z) (kn q)
theorem Go.icmp_ne (C : Cx p s m meth c Z own bytes maxL ret nm) (X : Stand p l e R s m args below meth c T locs cells slots) {pc n1 n2 : Nat} {ls : Array Slot} {rest : List Value} {x y : Int32} {o : Int} (hd : decode bytes pc = .ok (.if_icmp .ne o, 3)) (ho : 0 ≤ (pc : Int) + o) (h1 : ((pc : Int) + o).toNat = n1) (h2 : pc + 3 = n2)
    (ky : ¬ x = y → Go p e below K (T.setTop (mkF m n1 ls rest))) (kn : x = y → Go p e below K (T.setTop (mkF m n2 ls rest))) : Go p e below K (T.setTop (mkF m pc ls (.int y :: .int x :: rest))) := by
  subst h2
  by_cases q : x = y
  · exact Go.of (fun t z => XS.icmpNo X.here C.hx rfl (hb C.hby hd) rfl (XT.ii_ne_f q) z) (kn q)
  · exact Go.of (fun t z => XS.icmpYes X.here C.hx rfl rfl (hb C.hby hd) rfl (XT.ii_ne_t q) ho h1 z) (ky q)
theorem Go.if0_ne (C : Cx p s m meth c Z own bytes maxL ret nm) (X : Stand p l e R s m args below meth c T locs cells slots) {pc n1 n2 : Nat} {ls : Array Slot} {rest : List Value} {x : Int32} {o : Int} (hd : decode bytes pc = .ok (.ifCond .ne o, 3)) (ho : 0 ≤ (pc : Int) + o) (h1 : ((pc : Int) + o).toNat = n1) (h2 : pc + 3 = n2)
    (ky : ¬ x = 0 → Go p e below K (T.setTop (mkF m n1 ls rest))) (kn : x = 0 → Go p e below K (T.setTop (mkF m n2 ls rest))) : Go p e below K (T.setTop (mkF m pc ls (.int x :: rest))) := by
  subst h2
  by_cases q : x = 0
  · exact Go.of (fun t z => XS.ifNo X.here C.hx rfl (hb C.hby hd) rfl (XT.i0_ne_f q) z) (kn q)
  · exact Go.of (fun t z => XS.ifYes X.here C.hx rfl rfl (hb C.hby hd) rfl (XT.i0_ne_t q) ho h1 z) (ky q)
theorem Go.lcmp_ne (C : Cx p s m meth c Z own bytes maxL ret nm) (X : Stand p l e R s m args below meth c T locs cells slots) {pc n1 n2 : Nat} {ls : Array Slot} {rest : List Value} {x y : Int64} {o : Int} (hd : decode bytes pc = .ok (.ifCond .ne o, 3)) (ho : 0 ≤ (pc : Int) + o) (h1 : ((pc : Int) + o).toNat = n1) (h2 : pc + 3 = n2)
    (ky : ¬ x = y → Go p e below K (T.setTop (mkF m n1 ls rest))) (kn : x = y → Go p e below K (T.setTop (mkF m n2 ls rest))) : Go p e below K (T.setTop (mkF m pc ls (.int (XT.cmpL x y) :: rest))) := by
  subst h2
  by_cases q : x = y
  · exact Go.of (fun t z => XS.ifNo X.here C.hx rfl (hb C.hby hd) rfl (XT.ll_ne_f q) z) (kn q)
  · exact Go.of (fun t z => XS.ifYes X.here C.hx rfl rfl (hb C.hby hd) rfl (XT.ll_ne_t q) ho h1 z) (ky q)
theorem Go.icmp_lt (C : Cx p s m meth c Z own bytes maxL ret nm) (X : Stand p l e R s m args below meth c T locs cells slots) {pc n1 n2 : Nat} {ls : Array Slot} {rest : List Value} {x y : Int32} {o : Int} (hd : decode bytes pc = .ok (.if_icmp .lt o, 3)) (ho : 0 ≤ (pc : Int) + o) (h1 : ((pc : Int) + o).toNat = n1) (h2 : pc + 3 = n2)
    (ky : x < y → Go p e below K (T.setTop (mkF m n1 ls rest))) (kn : ¬ x < y → Go p e below K (T.setTop (mkF m n2 ls rest))) : Go p e below K (T.setTop (mkF m pc ls (.int y :: .int x :: rest))) := by
  subst h2
  by_cases q : x < y
  · exact Go.of (fun t z => XS.icmpYes X.here C.hx rfl rfl (hb C.hby hd) rfl (XT.ii_lt_t q) ho h1 z) (ky q)
  · exact Go.of (fun t z => XS.icmpNo X.here C.hx rfl (hb C.hby hd) rfl (XT.ii_lt_f q) z) (kn q)
theorem Go.if0_lt (C : Cx p s m meth c Z own bytes maxL ret nm) (X : Stand p l e R s m args below meth c T locs cells slots) {pc n1 n2 : Nat} {ls : Array Slot} {rest : List Value} {x : Int32} {o : Int} (hd : decode bytes pc = .ok (.ifCond .lt o, 3)) (ho : 0 ≤ (pc : Int) + o) (h1 : ((pc : Int) + o).toNat = n1) (h2 : pc + 3 = n2)
    (ky : x < 0 → Go p e below K (T.setTop (mkF m n1 ls rest))) (kn : ¬ x < 0 → Go p e below K (T.setTop (mkF m n2 ls rest))) : Go p e below K (T.setTop (mkF m pc ls (.int x :: rest))) := by
  subst h2
  by_cases q : x < 0
  · exact Go.of (fun t z => XS.ifYes X.here C.hx rfl rfl (hb C.hby hd) rfl (XT.i0_lt_t q) ho h1 z) (ky q)
  · exact Go.of (fun t z => XS.ifNo X.here C.hx rfl (hb C.hby hd) rfl (XT.i0_lt_f q) z) (kn q)
theorem Go.lcmp_lt (C : Cx p s m meth c Z own bytes maxL ret nm) (X : Stand p l e R s m args below meth c T locs cells slots) {pc n1 n2 : Nat} {ls : Array Slot} {rest : List Value} {x y : Int64} {o : Int} (hd : decode bytes pc = .ok (.ifCond .lt o, 3)) (ho : 0 ≤ (pc : Int) + o) (h1 : ((pc : Int) + o).toNat = n1) (h2 : pc + 3 = n2)
    (ky : x < y → Go p e below K (T.setTop (mkF m n1 ls rest))) (kn : ¬ x < y → Go p e below K (T.setTop (mkF m n2 ls rest))) : Go p e below K (T.setTop (mkF m pc ls (.int (XT.cmpL x y) :: rest))) := by
  subst h2
  by_cases q : x < y
  · exact Go.of (fun t z => XS.ifYes X.here C.hx rfl rfl (hb C.hby hd) rfl (XT.ll_lt_t q) ho h1 z) (ky q)
  · exact Go.of (fun t z => XS.ifNo X.here C.hx rfl (hb C.hby hd) rfl (XT.ll_lt_f q) z) (kn q)
theorem Go.icmp_ge (C : Cx p s m meth c Z own bytes maxL ret nm) (X : Stand p l e R s m args below meth c T locs cells slots) {pc n1 n2 : Nat} {ls : Array Slot} {rest : List Value} {x y : Int32} {o : Int} (hd : decode bytes pc = .ok (.if_icmp .ge o, 3)) (ho : 0 ≤ (pc : Int) + o) (h1 : ((pc : Int) + o).toNat = n1) (h2 : pc + 3 = n2)
    (ky : ¬ x < y → Go p e below K (T.setTop (mkF m n1 ls rest))) (kn : x < y → Go p e below K (T.setTop (mkF m n2 ls rest))) : Go p e below K (T.setTop (mkF m pc ls (.int y :: .int x :: rest))) := by
  subst h2
  by_cases q : x < y
  · exact Go.of (fun t z => XS.icmpNo X.here C.hx rfl (hb C.hby hd) rfl (XT.ii_ge_f q) z) (kn q)
  · exact Go.of (fun t z => XS.icmpYes X.here C.hx rfl rfl (hb C.hby hd) rfl (XT.ii_ge_t q) ho h1 z) (ky q)
theorem Go.if0_ge (C : Cx p s m meth c Z own bytes maxL ret nm) (X : Stand p l e R s m args below meth c T locs cells slots) {pc n1 n2 : Nat} {ls : Array Slot} {rest : List Value} {x : Int32} {o : Int} (hd : decode bytes pc = .ok (.ifCond .ge o, 3)) (ho : 0 ≤ (pc : Int) + o) (h1 : ((pc : Int) + o).toNat = n1) (h2 : pc + 3 = n2)
    (ky : ¬ x < 0 → Go p e below K (T.setTop (mkF m n1 ls rest))) (kn : x < 0 → Go p e below K (T.setTop (mkF m n2 ls rest))) : Go p e below K (T.setTop (mkF m pc ls (.int x :: rest))) := by
  subst h2
  by_cases q : x < 0
  · exact Go.of (fun t z => XS.ifNo X.here C.hx rfl (hb C.hby hd) rfl (XT.i0_ge_f q) z) (kn q)
  · exact Go.of (fun t z => XS.ifYes X.here C.hx rfl rfl (hb C.hby hd) rfl (XT.i0_ge_t q) ho h1 z) (ky q)
theorem Go.lcmp_ge (C : Cx p s m meth c Z own bytes maxL ret nm) (X : Stand p l e R s m args below meth c T locs cells slots) {pc n1 n2 : Nat} {ls : Array Slot} {rest : List Value} {x y : Int64} {o : Int} (hd : decode bytes pc = .ok (.ifCond .ge o, 3)) (ho : 0 ≤ (pc : Int) + o) (h1 : ((pc : Int) + o).toNat = n1) (h2 : pc + 3 = n2)
    (ky : ¬ x < y → Go p e below K (T.setTop (mkF m n1 ls rest))) (kn : x < y → Go p e below K (T.setTop (mkF m n2 ls rest))) : Go p e below K (T.setTop (mkF m pc ls (.int (XT.cmpL x y) :: rest))) := by
  subst h2
  by_cases q : x < y
  · exact Go.of (fun t z => XS.ifNo X.here C.hx rfl (hb C.hby hd) rfl (XT.ll_ge_f q) z) (kn q)
  · exact Go.of (fun t z => XS.ifYes X.here C.hx rfl rfl (hb C.hby hd) rfl (XT.ll_ge_t q) ho h1 z) (ky q)
theorem Go.icmp_gt (C : Cx p s m meth c Z own bytes maxL ret nm) (X : Stand p l e R s m args below meth c T locs cells slots) {pc n1 n2 : Nat} {ls : Array Slot} {rest : List Value} {x y : Int32} {o : Int} (hd : decode bytes pc = .ok (.if_icmp .gt o, 3)) (ho : 0 ≤ (pc : Int) + o) (h1 : ((pc : Int) + o).toNat = n1) (h2 : pc + 3 = n2)
    (ky : y < x → Go p e below K (T.setTop (mkF m n1 ls rest))) (kn : ¬ y < x → Go p e below K (T.setTop (mkF m n2 ls rest))) : Go p e below K (T.setTop (mkF m pc ls (.int y :: .int x :: rest))) := by
  subst h2
  by_cases q : y < x
  · exact Go.of (fun t z => XS.icmpYes X.here C.hx rfl rfl (hb C.hby hd) rfl (XT.ii_gt_t q) ho h1 z) (ky q)
  · exact Go.of (fun t z => XS.icmpNo X.here C.hx rfl (hb C.hby hd) rfl (XT.ii_gt_f q) z) (kn q)
theorem Go.if0_gt (C : Cx p s m meth c Z own bytes maxL ret nm) (X : Stand p l e R s m args below meth c T locs cells slots) {pc n1 n2 : Nat} {ls : Array Slot} {rest : List Value} {x : Int32} {o : Int} (hd : decode bytes pc = .ok (.ifCond .gt o, 3)) (ho : 0 ≤ (pc : Int) + o) (h1 : ((pc : Int) + o).toNat = n1) (h2 : pc + 3 = n2)
    (ky : 0 < x → Go p e below K (T.setTop (mkF m n1 ls rest))) (kn : ¬ 0 < x → Go p e below K (T.setTop (mkF m n2 ls rest))) : Go p e below K (T.setTop (mkF m pc ls (.int x :: rest))) := by
  subst h2
  by_cases q : 0 < x
  · exact Go.of (fun t z => XS.ifYes X.here C.hx rfl rfl (hb C.hby hd) rfl (XT.i0_gt_t q) ho h1 z) (ky q)
  · exact Go.of (fun t z => XS.ifNo X.here C.hx rfl (hb C.hby hd) rfl (XT.i0_gt_f q) z) (kn q)
theorem Go.lcmp_gt (C : Cx p s m meth c Z own bytes maxL ret nm) (X : Stand p l e R s m args below meth c T locs cells slots) {pc n1 n2 : Nat} {ls : Array Slot} {rest : List Value} {x y : Int64} {o : Int} (hd : decode bytes pc = .ok (.ifCond .gt o, 3)) (ho : 0 ≤ (pc : Int) + o) (h1 : ((pc : Int) + o).toNat = n1) (h2 : pc + 3 = n2)
    (ky : y < x → Go p e below K (T.setTop (mkF m n1 ls rest))) (kn : ¬ y < x → Go p e below K (T.setTop (mkF m n2 ls rest))) : Go p e below K (T.setTop (mkF m pc ls (.int (XT.cmpL x y) :: rest))) := by
  subst h2
  by_cases q : y < x
  · exact Go.of (fun t z => XS.ifYes X.here C.hx rfl rfl (hb C.hby hd) rfl (XT.ll_gt_t q) ho h1 z) (ky q)
  · exact Go.of (fun t z => XS.ifNo X.here C.hx rfl (hb C.hby hd) rfl (XT.ll_gt_f q) z) (kn q)
theorem Go.icmp_le (C : Cx p s m meth c Z own bytes maxL ret nm) (X : Stand p l e R s m args below meth c T locs cells slots) {pc n1 n2 : Nat} {ls : Array Slot} {rest : List Value} {x y : Int32} {o : Int} (hd : decode bytes pc = .ok (.if_icmp .le o, 3)) (ho : 0 ≤ (pc : Int) + o) (h1 : ((pc : Int) + o).toNat = n1) (h2 : pc + 3 = n2)
    (ky : ¬ y < x → Go p e below K (T.setTop (mkF m n1 ls rest))) (kn : y < x → Go p e below K (T.setTop (mkF m n2 ls rest))) : Go p e below K (T.setTop (mkF m pc ls (.int y :: .int x :: rest))) := by
  subst h2
  by_cases q : y < x
  · exact Go.of (fun t z => XS.icmpNo X.here C.hx rfl (hb C.hby hd) rfl (XT.ii_le_f q) z) (kn q)
  · exact Go.of (fun t z => XS.icmpYes X.here C.hx rfl rfl (hb C.hby hd) rfl (XT.ii_le_t q) ho h1 z) (ky q)
theorem Go.if0_le (C : Cx p s m meth c Z own bytes maxL ret nm) (X : Stand p l e R s m args below meth c T locs cells slots) {pc n1 n2 : Nat} {ls : Array Slot} {rest : List Value} {x : Int32} {o : Int} (hd : decode bytes pc = .ok (.ifCond .le o, 3)) (ho : 0 ≤ (pc : Int) + o) (h1 : ((pc : Int) + o).toNat = n1) (h2 : pc + 3 = n2)
    (ky : ¬ 0 < x → Go p e below K (T.setTop (mkF m n1 ls rest))) (kn : 0 < x → Go p e below K (T.setTop (mkF m n2 ls rest))) : Go p e below K (T.setTop (mkF m pc ls (.int x :: rest))) := by
  subst h2
  by_cases q : 0 < x
  · exact Go.of (fun t z => XS.ifNo X.here C.hx rfl (hb C.hby hd) rfl (XT.i0_le_f q) z) (kn q)
  · exact Go.of (fun t z => XS.ifYes X.here C.hx rfl rfl (hb C.hby hd) rfl (XT.i0_le_t q) ho h1 z) (ky q)
theorem Go.lcmp_le (C : Cx p s m meth c Z own bytes maxL ret nm) (X : Stand p l e R s m args below meth c T locs cells slots) {pc n1 n2 : Nat} {ls : Array Slot} {rest : List Value} {x y : Int64} {o : Int} (hd : decode bytes pc = .ok (.ifCond .le o, 3)) (ho : 0 ≤ (pc : Int) + o) (h1 : ((pc : Int) + o).toNat = n1) (h2 : pc + 3 = n2)
    (ky : ¬ y < x → Go p e below K (T.setTop (mkF m n1 ls rest))) (kn : y < x → Go p e below K (T.setTop (mkF m n2 ls rest))) : Go p e below K (T.setTop (mkF m pc ls (.int (XT.cmpL x y) :: rest))) := by
  subst h2
  by_cases q : y < x
  · exact Go.of (fun t z => XS.ifNo X.here C.hx rfl (hb C.hby hd) rfl (XT.ll_le_f q) z) (kn q)
  · exact Go.of (fun t z => XS.ifYes X.here C.hx rfl rfl (hb C.hby hd) rfl (XT.ll_le_t q) ho h1 z) (ky q)
theorem Go.ifnullN (C : Cx p s m meth c Z own bytes maxL ret nm) (X : Stand p l e R s m args below meth c T locs cells slots) {pc n : Nat} {ls : Array Slot} {rest : List Value} {o : Int} (hd : decode bytes pc = .ok (.ifnull o, 3)) (ho : 0 ≤ (pc : Int) + o) (hn : ((pc : Int) + o).toNat = n) (k : Go p e below K (T.setTop (mkF m n ls rest))) : Go p e below K (T.setTop (mkF m pc ls (.null :: rest))) :=
  Go.of (fun t q => XS.ifnullYes X.here C.hx rfl rfl (hb C.hby hd) rfl ho hn q) k
theorem Go.ifnullR (C : Cx p s m meth c Z own bytes maxL ret nm) (X : Stand p l e R s m args below meth c T locs cells slots) {pc n : Nat} {ls : Array Slot} {rest : List Value} {o : Int} {b : Addr} (hd : decode bytes pc = .ok (.ifnull o, 3)) (hn : pc + 3 = n) (k : Go p e below K (T.setTop (mkF m n ls rest))) : Go p e below K (T.setTop (mkF m pc ls (.ref b :: rest))) := by
  subst hn
  exact Go.of (fun t q => XS.ifnullNo X.here C.hx rfl (hb C.hby hd) rfl q) k
theorem Go.ifnonnullN (C : Cx p s m meth c Z own bytes maxL ret nm) (X : Stand p l e R s m args below meth c T locs cells slots) {pc n : Nat} {ls : Array Slot} {rest : List Value} {o : Int} (hd : decode bytes pc = .ok (.ifnonnull o, 3)) (hn : pc + 3 = n) (k : Go p e below K (T.setTop (mkF m n ls rest))) : Go p e below K (T.setTop (mkF m pc ls (.null :: rest))) := by
  subst hn
  exact Go.of (fun t q => XT.ifnonnullNo X.here C.hx rfl (hb C.hby hd) rfl q) k
theorem Go.ifnonnullR (C : Cx p s m meth c Z own bytes maxL ret nm) (X : Stand p l e R s m args below meth c T locs cells slots) {pc n : Nat} {ls : Array Slot} {rest : List Value} {o : Int} {b : Addr} (hd : decode bytes pc = .ok (.ifnonnull o, 3)) (ho : 0 ≤ (pc : Int) + o) (hn : ((pc : Int) + o).toNat = n) (k : Go p e below K (T.setTop (mkF m n ls rest))) : Go p e below K (T.setTop (mkF m pc ls (.ref b :: rest))) :=
  Go.of (fun t q => XT.ifnonnullYes X.here C.hx rfl rfl (hb C.hby hd) rfl ho hn q) k
theorem Go.acmp_eq (C : Cx p s m meth c Z own bytes maxL ret nm) (X : Stand p l e R s m args below meth c T locs cells slots) {pc n1 n2 : Nat} {ls : Array Slot} {rest : List Value} {x y : Value} {o : Int} (hx' : x.isRef = true) (hy' : y.isRef = true) (hd : decode bytes pc = .ok (.if_acmp .eq o, 3)) (ho : 0 ≤ (pc : Int) + o) (h1 : ((pc : Int) + o).toNat = n1) (h2 : pc + 3 = n2)
    (ky : x = y → Go p e below K (T.setTop (mkF m n1 ls rest))) (kn : ¬ x = y → Go p e below K (T.setTop (mkF m n2 ls rest))) : Go p e below K (T.setTop (mkF m pc ls (y :: x :: rest))) := by
  subst h2
  by_cases q : x = y
  · exact Go.of (fun t z => XT.acmpYes X.here C.hx rfl rfl (hb C.hby hd) rfl hx' hy' (XT.aa_eq_t q) ho h1 z) (ky q)
  · exact Go.of (fun t z => XT.acmpNo X.here C.hx rfl (hb C.hby hd) rfl hx' hy' (XT.aa_eq_f q) z) (kn q)
theorem Go.acmp_ne (C : Cx p s m meth c Z own bytes maxL ret nm) (X : Stand p l e R s m args below meth c T locs cells slots) {pc n1 n2 : Nat} {ls : Array Slot} {rest : List Value} {x y : Value} {o : Int} (hx' : x.isRef = true) (hy' : y.isRef = true) (hd : decode bytes pc = .ok (.if_acmp .ne o, 3)) (ho : 0 ≤ (pc : Int) + o) (h1 : ((pc : Int) + o).toNat = n1) (h2 : pc + 3 = n2)
    (ky : ¬ x = y → Go p e below K (T.setTop (mkF m n1 ls rest))) (kn : x = y → Go p e below K (T.setTop (mkF m n2 ls rest))) : Go p e below K (T.setTop (mkF m pc ls (y :: x :: rest))) := by
  subst h2
  by_cases q : x = y
  · exact Go.of (fun t z => XT.acmpNo X.here C.hx rfl (hb C.hby hd) rfl hx' hy' (XT.aa_ne_f q) z) (kn q)
  · exact Go.of (fun t z => XT.acmpYes X.here C.hx rfl rfl (hb C.hby hd) rfl hx' hy' (XT.aa_ne_t q) ho h1 z) (ky q)
theorem Go.iaload (C : Cx p s m meth c Z own bytes maxL ret nm) (X : Stand p l e R s m args below meth c T locs cells slots) {pc n : Nat} {ls : Array Slot} {rest : List Value} (eT : T.heap = h) {a : Addr} {cl : Cell} {j : Int32} {v : Value} (A : Arr Z h a cl .int) (hj : ¬ (j < 0 ∨ cl.slots.size ≤ j.toNatClampNeg)) (hv : cl.slots[j.toNatClampNeg]? = some v) (hd : decode bytes pc = .ok (.iaload, 1)) (hn : pc + 1 = n) (k : Go p e below K (T.setTop (mkF m n ls (v :: rest)))) : Go p e below K (T.setTop (mkF m pc ls (.int j :: .ref a :: rest))) := by
  subst hn
  have hc : T.heap[a]? = some cl := by rw [eT]; exact A.1
  have ha := State.isArrayOf_alike (T := s) C.hZ.alike A.2.1
  exact Go.of (fun t q => X.iaload C.hx hc ha A.2.2 hj hv (g := mkF m pc ls (.int j :: .ref a :: rest)) rfl rfl (hb C.hby hd) t q) k
theorem Go.caload (C : Cx p s m meth c Z own bytes maxL ret nm) (X : Stand p l e R s m args below meth c T locs cells slots) {pc n : Nat} {ls : Array Slot} {rest : List Value} (eT : T.heap = h) {a : Addr} {cl : Cell} {j : Int32} {v : Value} (A : Arr Z h a cl .char) (hj : ¬ (j < 0 ∨ cl.slots.size ≤ j.toNatClampNeg)) (hv : cl.slots[j.toNatClampNeg]? = some v) (hd : decode bytes pc = .ok (.caload, 1)) (hn : pc + 1 = n) (k : Go p e below K (T.setTop (mkF m n ls (v :: rest)))) : Go p e below K (T.setTop (mkF m pc ls (.int j :: .ref a :: rest))) := by
  subst hn
  have hc : T.heap[a]? = some cl := by rw [eT]; exact A.1
  have ha := State.isArrayOf_alike (T := s) C.hZ.alike A.2.1
  exact Go.of (fun t q => X.caload C.hx hc ha A.2.2 hj hv (g := mkF m pc ls (.int j :: .ref a :: rest)) rfl rfl (hb C.hby hd) t q) k
theorem Go.baloadB (C : Cx p s m meth c Z own bytes maxL ret nm) (X : Stand p l e R s m args below meth c T locs cells slots) {pc n : Nat} {ls : Array Slot} {rest : List Value} (eT : T.heap = h) {a : Addr} {cl : Cell} {j : Int32} {v : Value} (A : Arr Z h a cl .byte) (hj : ¬ (j < 0 ∨ cl.slots.size ≤ j.toNatClampNeg)) (hv : cl.slots[j.toNatClampNeg]? = some v) (hd : decode bytes pc = .ok (.baload, 1)) (hn : pc + 1 = n) (k : Go p e below K (T.setTop (mkF m n ls (v :: rest)))) : Go p e below K (T.setTop (mkF m pc ls (.int j :: .ref a :: rest))) := by
  subst hn
  have hc : T.heap[a]? = some cl := by rw [eT]; exact A.1
  have ha := State.isArrayOf_alike (T := s) C.hZ.alike A.2.1
  exact Go.of (fun t q => X.baloadBytes C.hx hc ha A.2.2 hj hv (g := mkF m pc ls (.int j :: .ref a :: rest)) rfl rfl (hb C.hby hd) t q) k
theorem Go.aaload (C : Cx p s m meth c Z own bytes maxL ret nm) (X : Stand p l e R s m args below meth c T locs cells slots) {pc n : Nat} {ls : Array Slot} {rest : List Value} (eT : T.heap = h) {a : Addr} {cl : Cell} {j : Int32} {v : Value} {ty : FieldType} (hty : ty.isReference = true) (A : Arr Z h a cl ty) (hj : ¬ (j < 0 ∨ cl.slots.size ≤ j.toNatClampNeg)) (hv : cl.slots[j.toNatClampNeg]? = some v) (hd : decode bytes pc = .ok (.aaload, 1)) (hn : pc + 1 = n) (k : Go p e below K (T.setTop (mkF m n ls (v :: rest)))) : Go p e below K (T.setTop (mkF m pc ls (.int j :: .ref a :: rest))) := by
  subst hn
  have hc : T.heap[a]? = some cl := by rw [eT]; exact A.1
  have ha := State.isArrayOf_alike (T := s) C.hZ.alike A.2.1
  exact Go.of (fun t q => X.aaload C.hx hc ha hty A.2.2 hj hv (g := mkF m pc ls (.int j :: .ref a :: rest)) rfl rfl (hb C.hby hd) t q) k
theorem Go.arraylength (C : Cx p s m meth c Z own bytes maxL ret nm) (X : Stand p l e R s m args below meth c T locs cells slots) {pc n : Nat} {ls : Array Slot} {rest : List Value} (eT : T.heap = h) {a : Addr} {cl : Cell} {ty : FieldType} {z : Int32} (A : Arr Z h a cl ty) (hz : cl.slots.size.toInt32 = z) (hd : decode bytes pc = .ok (.arraylength, 1)) (hn : pc + 1 = n) (k : Go p e below K (T.setTop (mkF m n ls (.int z :: rest)))) : Go p e below K (T.setTop (mkF m pc ls (.ref a :: rest))) := by
  subst hn hz
  have hc : T.heap[a]? = some cl := by rw [eT]; exact A.1
  have ha := State.isArrayOf_alike (T := s) C.hZ.alike A.2.1
  exact Go.of (fun t q => X.arraylength C.hx hc ha (g := mkF m pc ls (.ref a :: rest)) rfl rfl (hb C.hby hd) t q) k
theorem Go.iastore (C : Cx p s m meth c Z own bytes maxL ret nm) (X : Stand p l e R s m args below meth c T locs cells slots) {pc n : Nat} {ls : Array Slot} {rest : List Value} (eT : T.heap = h) {a : Addr} {cl : Cell} {j : Int32} {x : Int32} (A : Arr Z h a cl .int) (hj : ¬ (j < 0 ∨ cl.slots.size ≤ j.toNatClampNeg)) (hd : decode bytes pc = .ok (.iastore, 1)) (hn : pc + 1 = n) (k : ∀ T' h', Stand p l e R s m args below meth c T' (locs ++ [⟨a, j.toNatClampNeg⟩]) cells slots → T'.heap = h' → Wr h h' a j.toNatClampNeg (.int x) → Go p e below K (T'.setTop (mkF m n ls rest))) : Go p e below K (T.setTop (mkF m pc ls (.int x :: .int j :: .ref a :: rest))) := by
  subst hn
  obtain ⟨T', h', X', e', W, st⟩ := stI X C.hx C.hZ eT A hj (g := mkF m pc ls (.int x :: .int j :: .ref a :: rest)) rfl rfl (hb C.hby hd)
  exact Go.of st (k T' h' X' e' W)
theorem Go.castore (C : Cx p s m meth c Z own bytes maxL ret nm) (X : Stand p l e R s m args below meth c T locs cells slots) {pc n : Nat} {ls : Array Slot} {rest : List Value} (eT : T.heap = h) {a : Addr} {cl : Cell} {j : Int32} {x : Int32} (A : Arr Z h a cl .char) (hj : ¬ (j < 0 ∨ cl.slots.size ≤ j.toNatClampNeg)) (hd : decode bytes pc = .ok (.castore, 1)) (hn : pc + 1 = n) (k : ∀ T' h', Stand p l e R s m args below meth c T' (locs ++ [⟨a, j.toNatClampNeg⟩]) cells slots → T'.heap = h' → Wr h h' a j.toNatClampNeg (.int (nar .char x)) → Go p e below K (T'.setTop (mkF m n ls rest))) : Go p e below K (T.setTop (mkF m pc ls (.int x :: .int j :: .ref a :: rest))) := by
  subst hn
  obtain ⟨T', h', X', e', W, st⟩ := stC X C.hx C.hZ eT A hj (g := mkF m pc ls (.int x :: .int j :: .ref a :: rest)) rfl rfl (hb C.hby hd)
  exact Go.of st (k T' h' X' e' W)
theorem Go.bastoreB (C : Cx p s m meth c Z own bytes maxL ret nm) (X : Stand p l e R s m args below meth c T locs cells slots) {pc n : Nat} {ls : Array Slot} {rest : List Value} (eT : T.heap = h) {a : Addr} {cl : Cell} {j : Int32} {x : Int32} (A : Arr Z h a cl .byte) (hj : ¬ (j < 0 ∨ cl.slots.size ≤ j.toNatClampNeg)) (hd : decode bytes pc = .ok (.bastore, 1)) (hn : pc + 1 = n) (k : ∀ T' h', Stand p l e R s m args below meth c T' (locs ++ [⟨a, j.toNatClampNeg⟩]) cells slots → T'.heap = h' → Wr h h' a j.toNatClampNeg (.int (nar .byte x)) → Go p e below K (T'.setTop (mkF m n ls rest))) : Go p e below K (T.setTop (mkF m pc ls (.int x :: .int j :: .ref a :: rest))) := by
  subst hn
  obtain ⟨T', h', X', e', W, st⟩ := stB X C.hx C.hZ eT A hj (g := mkF m pc ls (.int x :: .int j :: .ref a :: rest)) rfl rfl (hb C.hby hd)
  exact Go.of st (k T' h' X' e' W)
theorem Go.aastore (C : Cx p s m meth c Z own bytes maxL ret nm) (X : Stand p l e R s m args below meth c T locs cells slots) {pc n : Nat} {ls : Array Slot} {rest : List Value} (eT : T.heap = h) {a : Addr} {cl : Cell} {j : Int32} {v : Value} {ty : FieldType} (A : Arr Z h a cl ty) (hj : ¬ (j < 0 ∨ cl.slots.size ≤ j.toNatClampNeg)) (hty : ty.isReference = true) (F : Sto Z h a v) (hd : decode bytes pc = .ok (.aastore, 1)) (hn : pc + 1 = n) (k : ∀ T' h', Stand p l e R s m args below meth c T' (locs ++ [⟨a, j.toNatClampNeg⟩]) cells slots → T'.heap = h' → Wr h h' a j.toNatClampNeg v → Go p e below K (T'.setTop (mkF m n ls rest))) : Go p e below K (T.setTop (mkF m pc ls (v :: .int j :: .ref a :: rest))) := by
  subst hn
  obtain ⟨T', h', X', e', W, st⟩ := stR X C.hx C.hZ eT A hj hty F (g := mkF m pc ls (v :: .int j :: .ref a :: rest)) rfl rfl (hb C.hby hd)
  exact Go.of st (k T' h' X' e' W)
theorem Go.getF (C : Cx p s m meth c Z own bytes maxL ret nm) (X : Stand p l e R s m args below meth c T locs cells slots) {pc n : Nat} {ls : Array Slot} {rest : List Value} (eT : T.heap = h) {R0 O n0 d : String} {index : Nat} {a : Addr} {v : Value} (w : (Cond.fieldLink own index R0 n0 d).before a0 Z = true) (via : Via Z R0 O n0 d) (F : Fld Z h a O n0 d v) (hd : decode bytes pc = .ok (.getfield index, 3)) (hn : pc + 3 = n) (k : ∀ T', Stand p l e R s m args below meth c T' locs cells slots → T'.heap = h → Go p e below K (T'.setTop (mkF m n ls (v :: rest)))) : Go p e below K (T.setTop (mkF m pc ls (.ref a :: rest))) := by
  subst hn
  obtain ⟨T', X', e', st⟩ := Jvm.RoadKit.getF X C.hx C.hZ C.hown (host := "") (Or.inl w) via eT F (g := mkF m pc ls (.ref a :: rest)) rfl rfl (hb C.hby hd)
  exact Go.of st (k T' X' e')
theorem Go.putF (C : Cx p s m meth c Z own bytes maxL ret nm) (X : Stand p l e R s m args below meth c T locs cells slots) {pc n : Nat} {ls : Array Slot} {rest : List Value} (eT : T.heap = h) {R0 O n0 d C0 : String} {index kk : Nat} {ty : FieldType} {a : Addr} {v v' old : Value} (w : (Cond.fieldLink own index R0 n0 d).before a0 Z = true) (via : Via Z R0 O n0 d) (F : Fld Z h a O n0 d old) (E : Exa Z h a C0) (L : (Cond.lays C0 O n0 d).before a0 Z = true ∨ ((Cond.laysFinal C0 O n0 d).before a0 Z = true ∧ own = O ∧ nm = "<init>")) (wi : (Cond.instantiable C0 kk).before a0 Z = true) (hty : parseFieldDescriptor d = some ty) (hnv : narrow ty v = v') (hf : fits ty v' = true) (hd : decode bytes pc = .ok (.putfield index, 3)) (hn : pc + 3 = n)
    (k : ∀ T' h', Stand p l e R s m args below meth c T' (locs ++ [⟨a, slotOf Z O n0 d⟩]) cells slots → T'.heap = h' → Wr h h' a (slotOf Z O n0 d) v' → Go p e below K (T'.setTop (mkF m n ls rest))) : Go p e below K (T.setTop (mkF m pc ls (v :: .ref a :: rest))) := by
  subst hn
  obtain ⟨T', h', X', e', W, st⟩ := Jvm.RoadKit.putFN X C.hx C.hZ C.hown w via eT F E (L.imp id fun z => ⟨z.1, z.2.1, C.hnm.trans z.2.2⟩) wi hty hnv hf (g := mkF m pc ls (v :: .ref a :: rest)) rfl rfl (hb C.hby hd)
  exact Go.of st (k T' h' X' e' W)
theorem Go.getS (C : Cx p s m meth c Z own bytes maxL ret nm) (X : Stand p l e R s m args below meth c T locs cells slots) {pc n : Nat} {ls : Array Slot} {rest : List Value} (eT : T.heap = h) {R0 O n0 d : String} {index : Nat} {v : Value} (w : (Cond.fieldLink own index R0 n0 d).before a0 Z = true) (via : Via Z R0 O n0 d) (F : Sta Z h O n0 d v) (hd : decode bytes pc = .ok (.getstatic index, 3)) (hn : pc + 3 = n) (k : ∀ T', Stand p l e R s m args below meth c T' locs cells slots → T'.heap = h → Go p e below K (T'.setTop (mkF m n ls (v :: rest)))) : Go p e below K (T.setTop (mkF m pc ls rest)) := by
  subst hn
  obtain ⟨T', X', e', st⟩ := Jvm.RoadKit.getS X C.hx C.hZ C.hown (host := "") w via eT F (g := mkF m pc ls rest) rfl (hb C.hby hd)
  exact Go.of st (k T' X' e')
theorem Go.newO (C : Cx p s m meth c Z own bytes maxL ret nm) (X : Stand p l e R s m args below meth c T locs cells slots) {pc n : Nat} {ls : Array Slot} {rest : List Value} (eT : T.heap = h) {C0 : String} {index n0 : Nat} (w : (Cond.classLink own index C0).before a0 Z = true) (wi : (Cond.instantiable C0 n0).before a0 Z = true) (wz : (Cond.initialized C0).before a0 Z = true) (hd : decode bytes pc = .ok (.new index, 3)) (hn : pc + 3 = n) (hc : cells + 1 ≤ R.cells) (hl : slots + n0 ≤ R.slots)
    (k : ∀ T' h' a, a = h.size → Stand p l e R s m args below meth c T' locs (cells + 1) (slots + n0) → T'.heap = h' → Ext h h' → Exa Z h' a C0 → (∀ {O nm d : String} {ty : FieldType}, Laid Z a0 C0 O nm d → parseFieldDescriptor d = some ty → Fld Z h' a O nm d (defaultValue ty)) → Go p e below K (T'.setTop (mkF m n ls (.ref a :: rest)))) : Go p e below K (T.setTop (mkF m pc ls rest)) := by
  subst hn
  obtain ⟨T', h', X', e', E', A', D', -, st⟩ := Jvm.RoadKit.newO X C.hx C.hZ C.hown w wi wz eT (g := mkF m pc ls rest) rfl (hb C.hby hd) hc hl
  exact Go.of st (k T' h' _ rfl X' e' E' A' D')
theorem Go.newP (C : Cx p s m meth c Z own bytes maxL ret nm) (X : Stand p l e R s m args below meth c T locs cells slots) {pc n : Nat} {ls : Array Slot} {rest : List Value} (eT : T.heap = h) {aty : ArrayType} (w : (Cond.arrayClass (newarray.typeOf aty)).before a0 Z = true) {z : Int32} (hd : decode bytes pc = .ok (.newarray aty, 2)) (hn : pc + 2 = n) (hz : ¬ z < 0) (cap : Nat) (hcap : z.toNatClampNeg ≤ cap) (hb8 : cap * 8 ≤ 536870912) (hc : cells + 1 ≤ R.cells) (hl : slots + cap ≤ R.slots)
    (k : ∀ T' h' a cA, a = h.size → Stand p l e R s m args below meth c T' locs (cells + 1) (slots + cap) → T'.heap = h' → Ext h h' → Arr Z h' a (newA cA (newarray.typeOf aty) z) (newarray.typeOf aty) → Go p e below K (T'.setTop (mkF m n ls (.ref a :: rest)))) : Go p e below K (T.setTop (mkF m pc ls (.int z :: rest))) := by
  subst hn
  obtain ⟨T', h', cA, X', e', E', A', st⟩ := Jvm.RoadKit.newP X C.hx C.hZ w eT (g := mkF m pc ls (.int z :: rest)) rfl (hb C.hby hd) rfl hz hcap hb8 hc hl
  exact Go.of st (k T' h' _ cA rfl X' e' E' A')
theorem Go.newR (C : Cx p s m meth c Z own bytes maxL ret nm) (X : Stand p l e R s m args below meth c T locs cells slots) {pc n : Nat} {ls : Array Slot} {rest : List Value} (eT : T.heap = h) {C0 : String} {index : Nat} (w1 : (Cond.classLink own index C0).before a0 Z = true) (w2 : (Cond.arrayOver (.object C0)).before a0 Z = true) {z : Int32} (hd : decode bytes pc = .ok (.anewarray index, 3)) (hn : pc + 3 = n) (hz : ¬ z < 0) (cap : Nat) (hcap : z.toNatClampNeg ≤ cap) (hb8 : cap * 8 ≤ 536870912) (hc : cells + 1 ≤ R.cells) (hl : slots + cap ≤ R.slots)
    (k : ∀ T' h' a cA, a = h.size → Stand p l e R s m args below meth c T' locs (cells + 1) (slots + cap) → T'.heap = h' → Ext h h' → Arr Z h' a (newA cA (.object C0) z) (.object C0) → Ovr Z cA C0 → Go p e below K (T'.setTop (mkF m n ls (.ref a :: rest)))) : Go p e below K (T.setTop (mkF m pc ls (.int z :: rest))) := by
  subst hn
  obtain ⟨T', h', cA, X', e', E', A', O', st⟩ := Jvm.RoadKit.newR X C.hx C.hZ C.hown w1 w2 eT (g := mkF m pc ls (.int z :: rest)) rfl (hb C.hby hd) rfl hz hcap hb8 hc hl
  exact Go.of st (k T' h' _ cA rfl X' e' E' A' O')
theorem Go.initO (C : Cx p s m meth c Z own bytes maxL ret nm) (X : Stand p l e R s m args below meth c T locs cells slots) {pc n : Nat} {ls : Array Slot} {rest : List Value} (eT : T.heap = h) {index : Nat} {a : Addr} (w1 : (Cond.methodLink own index Lib.objectInit).before a0 Z = true) (w2 : (Cond.instanceMethod Lib.objectInit).before a0 Z = true) (w3 : (Cond.code Lib.objectInit ⟨#[0xb1]⟩ 1 none).before a0 Z = true) (hd : decode bytes pc = .ok (.invokespecial index, 3)) (hn : pc + 3 = n) (hsz : ls.size = maxL) (hf : 1 ≤ R.frames) {W : Nat} (hW : (rest.map fun v => v.category).sum = W) (hl : W + 12 ≤ R.locals)
    (k : ∀ T', Stand p l e R s m args below meth c T' locs cells slots → T'.heap = h → Go p e below K (T'.setTop (mkF m n ls rest))) : Go p e below K (T.setTop (mkF m pc ls (.ref a :: rest))) := by
  subst hn
  obtain ⟨T', X', e', st⟩ := Jvm.RoadKit.initO X C.hx C.hZ C.hown w1 w2 w3 eT (g := mkF m pc ls (.ref a :: rest)) rfl (hsz.trans C.hml.symm) rfl (hb C.hby hd) hf (W := W) (by show 2 * 0 + _ ≤ _; omega) hl
  exact Go.of st (k T' X' e')
theorem Go.castY (C : Cx p s m meth c Z own bytes maxL ret nm) (X : Stand p l e R s m args below meth c T locs cells slots) {pc n : Nat} {ls : Array Slot} {rest : List Value} (eT : T.heap = h) {K0 : String} {index : Nat} {a : Addr} (w : (Cond.classLink own index K0).before a0 Z = true) (F : Ins Z h a K0 true) (hd : decode bytes pc = .ok (.checkcast index, 3)) (hn : pc + 3 = n) (k : ∀ T', Stand p l e R s m args below meth c T' locs cells slots → T'.heap = h → Go p e below K (T'.setTop (mkF m n ls (.ref a :: rest)))) : Go p e below K (T.setTop (mkF m pc ls (.ref a :: rest))) := by
  subst hn
  obtain ⟨T', X', e', st⟩ := Jvm.RoadKit.castY X C.hx C.hZ C.hown w eT F (g := mkF m pc ls (.ref a :: rest)) rfl rfl (hb C.hby hd)
  exact Go.of st (k T' X' e')
theorem Go.instY (C : Cx p s m meth c Z own bytes maxL ret nm) (X : Stand p l e R s m args below meth c T locs cells slots) {pc n : Nat} {ls : Array Slot} {rest : List Value} (eT : T.heap = h) {K0 : String} {index : Nat} {a : Addr} (w : (Cond.classLink own index K0).before a0 Z = true) (F : Ins Z h a K0 true) (hd : decode bytes pc = .ok (.instanceof index, 3)) (hn : pc + 3 = n) (k : ∀ T', Stand p l e R s m args below meth c T' locs cells slots → T'.heap = h → Go p e below K (T'.setTop (mkF m n ls (.int 1 :: rest)))) : Go p e below K (T.setTop (mkF m pc ls (.ref a :: rest))) := by
  subst hn
  obtain ⟨T', X', e', st⟩ := Jvm.RoadKit.instY X C.hx C.hZ C.hown w eT F (g := mkF m pc ls (.ref a :: rest)) rfl rfl (hb C.hby hd)
  exact Go.of st (k T' X' e')
theorem Go.newPE (C : Cx p s m meth c Z own bytes maxL ret nm) (X : Stand p l e R s m args below meth c T locs cells slots) {pc n : Nat} {ls : Array Slot} {rest : List Value} (eT : T.heap = h) {aty : ArrayType} (w : (Cond.arrayClass (newarray.typeOf aty)).before a0 Z = true) {z : Int32} (hd : decode bytes pc = .ok (.newarray aty, 2)) (hn : pc + 2 = n) (hz : ¬ z < 0) (cap : Nat) (hcap : z.toNatClampNeg ≤ cap) (hb8 : cap * 8 ≤ 536870912) (hc : cells + 1 ≤ R.cells) (hl : slots + cap ≤ R.slots) {ad : String} (had : "[" ++ (newarray.typeOf aty).toString = ad)
    (k : ∀ T' h' a cA, a = h.size → Stand p l e R s m args below meth c T' locs (cells + 1) (slots + cap) → T'.heap = h' → Ext h h' → Arr Z h' a (newA cA (newarray.typeOf aty) z) (newarray.typeOf aty) → Exa Z h' a ad → Go p e below K (T'.setTop (mkF m n ls (.ref a :: rest)))) : Go p e below K (T.setTop (mkF m pc ls (.int z :: rest))) := by
  subst hn
  obtain ⟨T', h', cA, X', e', E', A', x', st⟩ := Jvm.RoadKit.newPE X C.hx C.hZ w eT (g := mkF m pc ls (.int z :: rest)) rfl (hb C.hby hd) rfl hz hcap hb8 hc hl had
  exact Go.of st (k T' h' _ cA rfl X' e' E' A' x')
theorem Go.cloneA (C : Cx p s m meth c Z own bytes maxL ret nm) (X : Stand p l e R s m args below meth c T locs cells slots) {pc n : Nat} {ls : Array Slot} {rest : List Value} (eT : T.heap = h) {index : Nat} {a : Addr} {ad : String} {cl : Cell} {ty : FieldType} (w1 : (Cond.methodLink own index ⟨ad, "clone", "()Ljava/lang/Object;"⟩).before a0 Z = true) (w2 : (Cond.sameMethod ad "java/lang/Object" "clone" "()Ljava/lang/Object;").before a0 Z = true) (w3 : (Cond.native ⟨"java/lang/Object", "clone", "()Ljava/lang/Object;"⟩).before a0 Z = true) (w4 : (Cond.instanceMethod ⟨"java/lang/Object", "clone", "()Ljava/lang/Object;"⟩).before a0 Z = true) (w5 : (Cond.selects ad ⟨ad, "clone", "()Ljava/lang/Object;"⟩ ⟨"java/lang/Object", "clone", "()Ljava/lang/Object;"⟩).before a0 Z = true) (w6 : (Cond.castable ad "java/lang/Cloneable").before a0 Z = true)
    (A : Arr Z h a cl ty) (E : Exa Z h a ad) (F : FitC Z cl) (hd : decode bytes pc = .ok (.invokevirtual index, 3)) (hn : pc + 3 = n) (hsz : ls.size = maxL) (hf : 1 ≤ R.frames) {W : Nat} (hW : (rest.map fun v => v.category).sum = W) (hl : W + 14 ≤ R.locals) (cap : Nat) (hcap : cl.slots.size ≤ cap) (hc : cells + 1 ≤ R.cells) (hsl : slots + cap ≤ R.slots)
    (k : ∀ T' h' b, b = h.size → Stand p l e R s m args below meth c T' locs (cells + 1) (slots + cap) → T'.heap = h' → Ext h h' → Arr Z h' b (cloneOf cl) ty → Exa Z h' b ad → Go p e below K (T'.setTop (mkF m n ls (.ref b :: rest)))) : Go p e below K (T.setTop (mkF m pc ls (.ref a :: rest))) := by
  subst hn
  obtain ⟨T', h', X', e', E', A', x', st⟩ := Jvm.RoadKit.cloneA X C.hx C.hZ C.hown w1 w2 w3 w4 w5 w6 eT A E F (g := mkF m pc ls (.ref a :: rest)) rfl (hsz.trans C.hml.symm) rfl (hb C.hby hd) hf (W := W) (by show 2 * 0 + _ ≤ _; omega) hl hcap hc hsl
  exact Go.of st (k T' h' _ rfl X' e' E' A' x')
theorem Go.stat (C : Cx p s m meth c Z own bytes maxL ret nm) (X : Stand p l e R s m args below meth c T locs cells slots) {pc n : Nat} {ls : Array Slot} {rest : List Value} (eT : T.heap = h) {index yL W : Nat} {ybytes : ByteArray} {yret : Option FieldType} {rm : Room} {Q : Option Value → Heap → List Loc → Prop} {argsL : List Value} {st : List Value} {y : MethodName} (hC : Ctr l Z y ybytes yL yret rm argsL.toArray h Q) (wl : (Cond.methodLink own index y).before a0 Z = true) (ws : (Cond.static y).before a0 Z = true) (wi : (Cond.initialized y.cls).before a0 Z = true) (wc : (Cond.code y ybytes yL yret).before a0 Z = true) (hy : y.cls ≠ "java/lang/invoke/MethodHandle" ∧ y.cls ≠ "java/lang/invoke/VarHandle")
    (hlen : ∀ sig, parseMethodDescriptor y.desc = some sig → argsL.length = sig.parameters.length) (hst : st = argsL.reverse ++ rest) (hd : decode bytes pc = .ok (.invokestatic index, 3)) (hn : pc + 3 = n) (hsz : ls.size = maxL) (hf : rm.frames + 1 ≤ R.frames) (hW : (rest.map fun v => v.category).sum = W) (hl : W + (yL + 11) + rm.locals ≤ R.locals) (hcl : cells + rm.cells ≤ R.cells) (hsl : slots + rm.slots ≤ R.slots) 
    (k : ∀ T' h' v L, Stand p l e R s m args below meth c T' (locs ++ L) (cells + rm.cells) (slots + rm.slots) → T'.heap = h' → Q v h' L → Go p e below K (T'.setTop (mkF m n ls (v.toList ++ rest)))) : Go p e below K (T.setTop (mkF m pc ls st)) := by
  subst hn hst
  obtain ⟨v, _, ⟨T', L', k', n'⟩, -, X', ⟨L1, hQ, l1, y1, z1⟩, stp⟩ := Jvm.LawKit.callS X C.hx (y := y) C.hown (mvT C.hZ wl) (mvT C.hZ ws) (mvT C.hZ wi) (mvT C.hZ wc) hy (backOf (W := W) (hC []) C.hZ wc wi hf hl) (g := mkF m pc ls (argsL.reverse ++ rest)) rfl (hsz.trans C.hml.symm) (argsL := argsL) (rest := rest) hlen rfl (by show 2 * 0 + _ ≤ _; omega) (hb C.hby hd) (fun _ _ => ⟨rfl, eT, hcl, hsl⟩)
  dsimp only [Pt.U, Pt.locs, Pt.cells, Pt.slots] at X' l1 y1 z1 stp hQ
  subst l1 y1 z1
  exact Go.of stp (k T' T'.heap v L1 X' rfl hQ)
theorem Go.spec (C : Cx p s m meth c Z own bytes maxL ret nm) (X : Stand p l e R s m args below meth c T locs cells slots) {pc n : Nat} {ls : Array Slot} {rest : List Value} (eT : T.heap = h) {index yL W : Nat} {ybytes : ByteArray} {rm : Room} {Q : Option Value → Heap → List Loc → Prop} {argsL : List Value} {st : List Value} {y : MethodName} {a : Addr} (hC : Ctr l Z y ybytes yL none rm (.ref a :: argsL).toArray h Q) (hy1 : y.name = "<init>") (wl : (Cond.methodLink own index y).before a0 Z = true) (wm : (Cond.instanceMethod y).before a0 Z = true) (wi : (Cond.initialized y.cls).before a0 Z = true) (wc : (Cond.code y ybytes yL none).before a0 Z = true) (hy : y.cls ≠ "java/lang/invoke/MethodHandle" ∧ y.cls ≠ "java/lang/invoke/VarHandle")
    (hlen : ∀ sig, parseMethodDescriptor y.desc = some sig → argsL.length = sig.parameters.length) (hst : st = argsL.reverse ++ .ref a :: rest) (hd : decode bytes pc = .ok (.invokespecial index, 3)) (hn : pc + 3 = n) (hsz : ls.size = maxL) (hf : rm.frames + 1 ≤ R.frames) (hW : (rest.map fun v => v.category).sum = W) (hl : W + (yL + 11) + rm.locals ≤ R.locals) (hcl : cells + rm.cells ≤ R.cells) (hsl : slots + rm.slots ≤ R.slots) 
    (k : ∀ T' h' v L, Stand p l e R s m args below meth c T' (locs ++ L) (cells + rm.cells) (slots + rm.slots) → T'.heap = h' → Q v h' L → Go p e below K (T'.setTop (mkF m n ls (v.toList ++ rest)))) : Go p e below K (T.setTop (mkF m pc ls st)) := by
  subst hn hst
  obtain ⟨v, _, ⟨T', L', k', n'⟩, -, X', ⟨L1, hQ, l1, y1, z1⟩, stp⟩ := X.specialBack C.hx (y := y) hy1 C.hown (mvT C.hZ wl) (mvT C.hZ wm) (mvT C.hZ wc) hy (backOf (W := W) (hC []) C.hZ wc wi hf hl) (g := mkF m pc ls (argsL.reverse ++ .ref a :: rest)) rfl (hsz.trans C.hml.symm) (Steps.refl _) (a := a) (argsL := argsL) (rest := rest) hlen rfl (by show 2 * 0 + _ ≤ _; omega) (hb C.hby hd) (fun _ _ => ⟨rfl, eT, hcl, hsl⟩)
  dsimp only [Pt.U, Pt.locs, Pt.cells, Pt.slots] at X' l1 y1 z1 stp hQ
  subst l1 y1 z1
  exact Go.of (fun t q => stp.trans q) (k T' T'.heap v L1 X' rfl hQ)
theorem Go.virt (C : Cx p s m meth c Z own bytes maxL ret nm) (X : Stand p l e R s m args below meth c T locs cells slots) {pc n : Nat} {ls : Array Slot} {rest : List Value} (eT : T.heap = h) {index yL W : Nat} {ybytes : ByteArray} {yret : Option FieldType} {rm : Room} {Q : Option Value → Heap → List Loc → Prop} {argsL : List Value} {st : List Value} {y z : MethodName} {a : Addr} {C0 : String} (hC : Ctr l Z z ybytes yL yret rm (.ref a :: argsL).toArray h Q) (wl : (Cond.methodLink own index y).before a0 Z = true) (wd : (Cond.declares y).before a0 Z = true) (nf : NotFace s y) (wsel : (Cond.selects C0 y z).before a0 Z = true) (wm : (Cond.instanceMethod z).before a0 Z = true) (wi : (Cond.initialized z.cls).before a0 Z = true) (wc : (Cond.code z ybytes yL yret).before a0 Z = true) (hy : y.cls ≠ "java/lang/invoke/MethodHandle" ∧ y.cls ≠ "java/lang/invoke/VarHandle") (E : Exa Z h a C0)
    (hlen : ∀ sig, parseMethodDescriptor y.desc = some sig → argsL.length = sig.parameters.length) (hst : st = argsL.reverse ++ .ref a :: rest) (hd : decode bytes pc = .ok (.invokevirtual index, 3)) (hn : pc + 3 = n) (hsz : ls.size = maxL) (hf : rm.frames + 1 ≤ R.frames) (hW : (rest.map fun v => v.category).sum = W) (hl : W + (yL + 11) + rm.locals ≤ R.locals) (hcl : cells + rm.cells ≤ R.cells) (hsl : slots + rm.slots ≤ R.slots) 
    (k : ∀ T' h' v L, Stand p l e R s m args below meth c T' (locs ++ L) (cells + rm.cells) (slots + rm.slots) → T'.heap = h' → Q v h' L → Go p e below K (T'.setTop (mkF m n ls (v.toList ++ rest)))) : Go p e below K (T.setTop (mkF m pc ls st)) := by
  subst hn hst
  obtain ⟨cq, kq, q1, q2, q3⟩ := isOf C.hZ eT E
  obtain ⟨v, _, ⟨T', L', k', n'⟩, -, X', ⟨L1, hQ, l1, y1, z1⟩, stp⟩ := X.virtualBack C.hx (y := y) (z := z) C.hown (mvT C.hZ wl) (mvT C.hZ wd) nf (mvT C.hZ wsel) (mvT C.hZ wm) hy (backOf (W := W) (hC []) C.hZ wc wi hf hl) q1 q3 (g := mkF m pc ls (argsL.reverse ++ .ref a :: rest)) rfl (hsz.trans C.hml.symm) (Steps.refl _) (argsL := argsL) (rest := rest) hlen rfl (by show 2 * 0 + _ ≤ _; omega) (hb C.hby hd) (fun _ _ => ⟨rfl, eT, hcl, hsl⟩)
  dsimp only [Pt.U, Pt.locs, Pt.cells, Pt.slots] at X' l1 y1 z1 stp hQ
  subst l1 y1 z1
  exact Go.of (fun t q => stp.trans q) (k T' T'.heap v L1 X' rfl hQ)
theorem Go.priv (C : Cx p s m meth c Z own bytes maxL ret nm) (X : Stand p l e R s m args below meth c T locs cells slots) {pc n : Nat} {ls : Array Slot} {rest : List Value} (eT : T.heap = h) {index yL W : Nat} {ybytes : ByteArray} {yret : Option FieldType} {rm : Room} {Q : Option Value → Heap → List Loc → Prop} {argsL : List Value} {st : List Value} {y : MethodName} {a : Addr} {C0 : String} (hC : Ctr l Z y ybytes yL yret rm (.ref a :: argsL).toArray h Q) (wl : (Cond.methodLink own index y).before a0 Z = true) (wm : (Cond.instanceMethod y).before a0 Z = true) {kk : Nat} (wk : (Cond.instantiable y.cls kk).before a0 Z = true) (wp : (Cond.privateMethod y).before a0 Z = true) (wi : (Cond.initialized y.cls).before a0 Z = true) (wc : (Cond.code y ybytes yL yret).before a0 Z = true) (hy : y.cls ≠ "java/lang/invoke/MethodHandle" ∧ y.cls ≠ "java/lang/invoke/VarHandle") (E : Exa Z h a C0)
    (hlen : ∀ sig, parseMethodDescriptor y.desc = some sig → argsL.length = sig.parameters.length) (hst : st = argsL.reverse ++ .ref a :: rest) (hd : decode bytes pc = .ok (.invokevirtual index, 3)) (hn : pc + 3 = n) (hsz : ls.size = maxL) (hf : rm.frames + 1 ≤ R.frames) (hW : (rest.map fun v => v.category).sum = W) (hl : W + (yL + 11) + rm.locals ≤ R.locals) (hcl : cells + rm.cells ≤ R.cells) (hsl : slots + rm.slots ≤ R.slots) 
    (k : ∀ T' h' v L, Stand p l e R s m args below meth c T' (locs ++ L) (cells + rm.cells) (slots + rm.slots) → T'.heap = h' → Q v h' L → Go p e below K (T'.setTop (mkF m n ls (v.toList ++ rest)))) : Go p e below K (T.setTop (mkF m pc ls st)) := by
  subst hn hst
  obtain ⟨cq, q, q'⟩ := E.cell
  obtain ⟨c0, k0, i1, i2, -, i4, -⟩ := Cond.instantiable_spec (mvT C.hZ wk (args := args) : (Cond.instantiable y.cls kk).before args s = true)
  have hni : k0.isInterface = false := by cases hq : k0.isInterface <;> simp [hq] at i4 ⊢
  have hsel := selects_self_of_private (args := args) i1 i2 hni (Cond.privateMethod_at (mvP C.hZ wp (args := #[]))) (mvT C.hZ wm) hy
  obtain ⟨v, _, ⟨T', L', k', n'⟩, -, X', ⟨L1, hQ, l1, y1, z1⟩, stp⟩ := X.privateBack C.hx (y := y) C.hown (mvT C.hZ wl) (mvT C.hZ wm) hsel (Cond.privateMethod_at (mvP C.hZ wp (args := #[]))) (mvT C.hZ wc) hy (backOf (W := W) (hC []) C.hZ wc wi hf hl) (g := mkF m pc ls (argsL.reverse ++ .ref a :: rest)) rfl (hsz.trans C.hml.symm) (Steps.refl _) (a := a) (by rw [eT]; exact q) q' (argsL := argsL) (rest := rest) hlen rfl (by show 2 * 0 + _ ≤ _; omega) (hb C.hby hd) (fun _ _ => ⟨rfl, eT, hcl, hsl⟩)
  dsimp only [Pt.U, Pt.locs, Pt.cells, Pt.slots] at X' l1 y1 z1 stp hQ
  subst l1 y1 z1
  exact Go.of (fun t q => stp.trans q) (k T' T'.heap v L1 X' rfl hQ)
theorem Go.face (C : Cx p s m meth c Z own bytes maxL ret nm) (X : Stand p l e R s m args below meth c T locs cells slots) {pc n : Nat} {ls : Array Slot} {rest : List Value} (eT : T.heap = h) {index yL W : Nat} {ybytes : ByteArray} {yret : Option FieldType} {rm : Room} {Q : Option Value → Heap → List Loc → Prop} {argsL : List Value} {st : List Value} {count : Nat} {xi y : MethodName} {a : Addr} {C0 : String} (hC : Ctr l Z y ybytes yL yret rm (.ref a :: argsL).toArray h Q) (wl : (Cond.methodLink own index xi).before a0 Z = true) (wd : (Cond.declares xi).before a0 Z = true) (wf : (Cond.interfaceMethod xi.cls xi.cls xi.name xi.desc).before a0 Z = true) (wsel : (Cond.selects C0 xi y).before a0 Z = true) (wm : (Cond.instanceMethod y).before a0 Z = true) (wp : (Cond.publicMethod y).before a0 Z = true) (wu : (Cond.unhidden C0 xi.name xi.desc).before a0 Z = true) (wca : (Cond.castable C0 xi.cls).before a0 Z = true) (wi : (Cond.initialized y.cls).before a0 Z = true) (wc : (Cond.code y ybytes yL yret).before a0 Z = true) (hy : xi.cls ≠ "java/lang/invoke/MethodHandle" ∧ xi.cls ≠ "java/lang/invoke/VarHandle") (E : Exa Z h a C0)
    (hlen : ∀ sig, parseMethodDescriptor xi.desc = some sig → argsL.length = sig.parameters.length) (hst : st = argsL.reverse ++ .ref a :: rest) (hd : decode bytes pc = .ok (.invokeinterface index count, 5)) (hn : pc + 5 = n) (hsz : ls.size = maxL) (hf : rm.frames + 1 ≤ R.frames) (hW : (rest.map fun v => v.category).sum = W) (hl : W + (yL + 11) + rm.locals ≤ R.locals) (hcl : cells + rm.cells ≤ R.cells) (hsl : slots + rm.slots ≤ R.slots) 
    (k : ∀ T' h' v L, Stand p l e R s m args below meth c T' (locs ++ L) (cells + rm.cells) (slots + rm.slots) → T'.heap = h' → Q v h' L → Go p e below K (T'.setTop (mkF m n ls (v.toList ++ rest)))) : Go p e below K (T.setTop (mkF m pc ls st)) := by
  subst hn hst
  obtain ⟨cq, kq, q1, q2, q3⟩ := isOf C.hZ eT E
  obtain ⟨v, _, ⟨T', L', k', n'⟩, -, X', ⟨L1, hQ, l1, y1, z1⟩, stp⟩ := X.interfaceBack C.hx (xi := xi) (y := y) C.hown (mvT C.hZ wl) (mvT C.hZ wd) (mvT C.hZ wf (by simp [Cond.onTables, Cond.keepsFace, Cond.keeps, Cond.faceAtom, Cond.steady, hy.1, hy.2])) (mvT C.hZ wsel) (mvT C.hZ wm) (mvT C.hZ wp) (mvT C.hZ wu) (mvT C.hZ wca) hy (backOf (W := W) (hC []) C.hZ wc wi hf hl) q1 q2 q3 (g := mkF m pc ls (argsL.reverse ++ .ref a :: rest)) rfl (hsz.trans C.hml.symm) (Steps.refl _) (argsL := argsL) (rest := rest) hlen rfl (by show 2 * 0 + _ ≤ _; omega) (hb C.hby hd) (fun _ _ => ⟨rfl, eT, hcl, hsl⟩)
  dsimp only [Pt.U, Pt.locs, Pt.cells, Pt.slots] at X' l1 y1 z1 stp hQ
  subst l1 y1 z1
  exact Go.of (fun t q => stp.trans q) (k T' T'.heap v L1 X' rfl hQ)
end OwnA
end Jvm.RoadKit
namespace Jvm.RoadKit
open Sem ClassFile Op Lib Jvm.Stand Jvm.Free Jvm.LawKit
section OwnB
variable {p : Program} {l : Launch} {e : Env} {R : Room} {s : State} {m : MethodId} {args : Array Value} {below : List Frame} {meth : Method} {c : Code} {T : State} {locs : List Loc} {cells slots : Nat} {Z : State} {a0 : Array Value} {h h' : Heap} {a b : Addr} {sl : Nat} {v : Value} {ty : FieldType} {vs : List Value} {ws : List Addr}
variable {own nm : String} {bytes : ByteArray} {maxL : Nat} {ret : Option FieldType} {K : Outcome → State → Prop}
theorem wd {tab : List Jvm.Cond} {a0 : Array Value} {Z : State} (hw : ∀ d ∈ tab, d.before a0 Z = true) (k : Nat) {d : Jvm.Cond} (q : tab[k]? = some d) : d.before a0 Z = true := hw d (List.mem_of_getElem? q)
theorem Old.le {n0 : Nat} (O : Old Z n0 h) : n0 ≤ h.size := O.1 ▸ O.2.1
theorem Fr.one {k i : Nat} (q : k ≤ a) : Fr k [⟨a, i⟩] := fun y hy => by cases List.mem_singleton.mp hy; exact q
theorem Go.weaken {Q Q' : Option Value → Heap → List Loc → Prop} {k n : Nat} (q : ∀ v h L, Q v h L → Q' v h L) (g : Go p e below (EndQ s Q k n) T) : Go p e below (EndQ s Q' k n) T := by
  obtain ⟨t, o, h1, h2, h3, v, L, h4, h5, h6⟩ := g
  exact ⟨t, o, h1, h2, h3, v, L, h4, q _ _ _ h5, h6⟩
/-- an array and its components -/
def Arl (Z : State) (h : Heap) (a : Addr) (ty : FieldType) (vs : List Value) : Prop := ∃ c : Cell, Arr Z h a c ty ∧ c.slots.toList = vs ∧ vs.length < 2 ^ 31
theorem Arl.lt (F : Arl Z h a ty vs) : a < h.size := by obtain ⟨c, A, -⟩ := F; exact A.lt
theorem Arl.ext (F : Arl Z h a ty vs) (E : Ext h h') : Arl Z h' a ty vs := by obtain ⟨c, A, r⟩ := F; exact ⟨c, A.ext E, r⟩
theorem Arl.other (F : Arl Z h b ty vs) (W : Wr h h' a sl v) (q : b ≠ a) : Arl Z h' b ty vs := by obtain ⟨c, A, r⟩ := F; exact ⟨c, A.other W q, r⟩
theorem Arl.keep (F : Arl Z h a ty vs) (K : Keep h h' ws) (q : a ∉ ws) : Arl Z h' a ty vs := by obtain ⟨c, A, r⟩ := F; exact ⟨c, ⟨K.2.1 a c A.1 q, A.2⟩, r⟩
theorem Arl.set (F : Arl Z h a ty vs) (W : Wr h h' a sl v) : Arl Z h' a ty (vs.set sl v) := by
  obtain ⟨c, A, e1, r⟩ := F
  exact ⟨c.setSlot sl v, A.same W, by simp [Cell.setSlot, e1], by simpa using r⟩
theorem Arl.new {k : ClassId} {z : Int32} {n : Nat} (A : Arr Z h a (newA k ty z) ty) (hz : z.toInt = n) : Arl Z h a ty (List.replicate n (defaultValue ty)) := by
  have h1 : z.toNatClampNeg = n := by simp only [Int32.toNatClampNeg]; omega
  have h2 := Int32.toInt_lt z
  exact ⟨_, A, by simp [newA, h1], by simp; omega⟩
theorem nat_idx {j : Int32} {i : Nat} (hj : j.toInt = i) : j.toNatClampNeg = i ∧ ¬ j < 0 := by
  refine ⟨by simp only [Int32.toNatClampNeg]; omega, fun q => ?_⟩
  rw [Int32.lt_iff_toInt_lt] at q
  simp at q; omega
theorem Arl.at (F : Arl Z h a ty vs) {j : Int32} {i : Nat} (hj : j.toInt = i) (hv : vs[i]? = some v) : ∃ c : Cell, Arr Z h a c ty ∧ ¬ (j < 0 ∨ c.slots.size ≤ j.toNatClampNeg) ∧ c.slots[j.toNatClampNeg]? = some v := by
  obtain ⟨c, A, e1, r⟩ := F
  obtain ⟨q1, q2⟩ := nat_idx hj
  subst e1
  rw [Array.getElem?_toList] at hv
  obtain ⟨hlt, -⟩ := Array.getElem?_eq_some_iff.mp hv
  exact ⟨c, A, fun q => q.elim q2 (fun q => by omega), by rw [q1]; exact hv⟩
theorem Arl.in (F : Arl Z h a ty vs) {j : Int32} {i : Nat} (hj : j.toInt = i) (hi : i < vs.length) : ∃ c : Cell, Arr Z h a c ty ∧ ¬ (j < 0 ∨ c.slots.size ≤ j.toNatClampNeg) ∧ j.toNatClampNeg = i := by
  obtain ⟨c, A, e1, r⟩ := F
  obtain ⟨q1, q2⟩ := nat_idx hj
  subst e1
  rw [Array.length_toList] at hi
  exact ⟨c, A, fun q => q.elim q2 (fun q => by omega), q1⟩
section Cxs
variable (C : Cx p s m meth c Z own bytes maxL ret nm) (X : Stand p l e R s m args below meth c T locs cells slots) {pc n : Nat} {ls : Array Slot} {rest : List Value} (eT : T.heap = h) {j : Int32}
theorem Go.ialoadL (C : Cx p s m meth c Z own bytes maxL ret nm) (X : Stand p l e R s m args below meth c T locs cells slots) (eT : T.heap = h) (F : Arl Z h a .int vs) (i : Nat) (hj : j.toInt = i) (hv : vs[i]? = some v) (hd : decode bytes pc = .ok (.iaload, 1)) (hn : pc + 1 = n) (k : Go p e below K (T.setTop (mkF m n ls (v :: rest)))) : Go p e below K (T.setTop (mkF m pc ls (.int j :: .ref a :: rest))) := by
  obtain ⟨cl, A, q1, q2⟩ := F.at hj hv
  exact Go.iaload C X eT A q1 q2 hd hn k
theorem Go.caloadL (C : Cx p s m meth c Z own bytes maxL ret nm) (X : Stand p l e R s m args below meth c T locs cells slots) (eT : T.heap = h) (F : Arl Z h a .char vs) (i : Nat) (hj : j.toInt = i) (hv : vs[i]? = some v) (hd : decode bytes pc = .ok (.caload, 1)) (hn : pc + 1 = n) (k : Go p e below K (T.setTop (mkF m n ls (v :: rest)))) : Go p e below K (T.setTop (mkF m pc ls (.int j :: .ref a :: rest))) := by
  obtain ⟨cl, A, q1, q2⟩ := F.at hj hv
  exact Go.caload C X eT A q1 q2 hd hn k
theorem Go.aaloadL (C : Cx p s m meth c Z own bytes maxL ret nm) (X : Stand p l e R s m args below meth c T locs cells slots) (eT : T.heap = h) (hty : ty.isReference = true) (F : Arl Z h a ty vs) (i : Nat) (hj : j.toInt = i) (hv : vs[i]? = some v) (hd : decode bytes pc = .ok (.aaload, 1)) (hn : pc + 1 = n) (k : Go p e below K (T.setTop (mkF m n ls (v :: rest)))) : Go p e below K (T.setTop (mkF m pc ls (.int j :: .ref a :: rest))) := by
  obtain ⟨cl, A, q1, q2⟩ := F.at hj hv
  exact Go.aaload C X eT hty A q1 q2 hd hn k
theorem Go.lengthL (C : Cx p s m meth c Z own bytes maxL ret nm) (X : Stand p l e R s m args below meth c T locs cells slots) (eT : T.heap = h) (F : Arl Z h a ty vs) {z : Int32} (hz : z.toInt = vs.length) (hd : decode bytes pc = .ok (.arraylength, 1)) (hn : pc + 1 = n) (k : Go p e below K (T.setTop (mkF m n ls (.int z :: rest)))) : Go p e below K (T.setTop (mkF m pc ls (.ref a :: rest))) := by
  obtain ⟨cl, A, q1, q2⟩ := F
  refine Go.arraylength C X eT A ?_ hd hn k
  subst q1
  rw [Array.length_toList] at q2 hz
  exact Int32.toInt_inj.mp (by rw [len_toInt q2, hz])
theorem Go.iastoreL (C : Cx p s m meth c Z own bytes maxL ret nm) (X : Stand p l e R s m args below meth c T locs cells slots) (eT : T.heap = h) {x : Int32} (F : Arl Z h a .int vs) (i : Nat) (hj : j.toInt = i) (hi : i < vs.length) (hd : decode bytes pc = .ok (.iastore, 1)) (hn : pc + 1 = n)
    (k : ∀ T' h', Stand p l e R s m args below meth c T' (locs ++ [⟨a, i⟩]) cells slots → T'.heap = h' → Wr h h' a i (.int x) → Arl Z h' a .int (vs.set i (.int x)) → Go p e below K (T'.setTop (mkF m n ls rest))) : Go p e below K (T.setTop (mkF m pc ls (.int x :: .int j :: .ref a :: rest))) := by
  obtain ⟨cl, A, q1, q2⟩ := F.in hj hi
  refine Go.iastore C X eT A q1 hd hn fun T' h' X' e' W => ?_
  rw [q2] at X' W
  exact k T' h' X' e' W (F.set W)
theorem Go.castoreL (C : Cx p s m meth c Z own bytes maxL ret nm) (X : Stand p l e R s m args below meth c T locs cells slots) (eT : T.heap = h) {x : Int32} (F : Arl Z h a .char vs) (i : Nat) (hj : j.toInt = i) (hi : i < vs.length) (hd : decode bytes pc = .ok (.castore, 1)) (hn : pc + 1 = n)
    (k : ∀ T' h', Stand p l e R s m args below meth c T' (locs ++ [⟨a, i⟩]) cells slots → T'.heap = h' → Wr h h' a i (.int (nar .char x)) → Arl Z h' a .char (vs.set i (.int (nar .char x))) → Go p e below K (T'.setTop (mkF m n ls rest))) : Go p e below K (T.setTop (mkF m pc ls (.int x :: .int j :: .ref a :: rest))) := by
  obtain ⟨cl, A, q1, q2⟩ := F.in hj hi
  refine Go.castore C X eT A q1 hd hn fun T' h' X' e' W => ?_
  rw [q2] at X' W
  exact k T' h' X' e' W (F.set W)
theorem Go.bastoreL (C : Cx p s m meth c Z own bytes maxL ret nm) (X : Stand p l e R s m args below meth c T locs cells slots) (eT : T.heap = h) {x : Int32} (F : Arl Z h a .byte vs) (i : Nat) (hj : j.toInt = i) (hi : i < vs.length) (hd : decode bytes pc = .ok (.bastore, 1)) (hn : pc + 1 = n)
    (k : ∀ T' h', Stand p l e R s m args below meth c T' (locs ++ [⟨a, i⟩]) cells slots → T'.heap = h' → Wr h h' a i (.int (nar .byte x)) → Arl Z h' a .byte (vs.set i (.int (nar .byte x))) → Go p e below K (T'.setTop (mkF m n ls rest))) : Go p e below K (T.setTop (mkF m pc ls (.int x :: .int j :: .ref a :: rest))) := by
  obtain ⟨cl, A, q1, q2⟩ := F.in hj hi
  refine Go.bastoreB C X eT A q1 hd hn fun T' h' X' e' W => ?_
  rw [q2] at X' W
  exact k T' h' X' e' W (F.set W)
theorem Go.newL (C : Cx p s m meth c Z own bytes maxL ret nm) (X : Stand p l e R s m args below meth c T locs cells slots) (eT : T.heap = h) {aty : ArrayType} (w : (Cond.arrayClass (newarray.typeOf aty)).before a0 Z = true) {z : Int32} (i : Nat) (hz : z.toInt = i) (cap : Nat) (hcap : i ≤ cap) (hd : decode bytes pc = .ok (.newarray aty, 2)) (hn : pc + 2 = n) (hb8 : cap * 8 ≤ 536870912) (hc : cells + 1 ≤ R.cells) (hl : slots + cap ≤ R.slots)
    (k : ∀ T' h' a, a = h.size → Stand p l e R s m args below meth c T' locs (cells + 1) (slots + cap) → T'.heap = h' → Ext h h' → Arl Z h' a (newarray.typeOf aty) (List.replicate i (defaultValue (newarray.typeOf aty))) → Go p e below K (T'.setTop (mkF m n ls (.ref a :: rest)))) : Go p e below K (T.setTop (mkF m pc ls (.int z :: rest))) := by
  obtain ⟨q1, q2⟩ := nat_idx hz
  exact Go.newP C X eT w hd hn q2 cap (by rw [q1]; exact hcap) hb8 hc hl fun T' h' a' cA e1 X' e' E A => k T' h' a' e1 X' e' E (Arl.new A hz)
theorem Go.newLE (C : Cx p s m meth c Z own bytes maxL ret nm) (X : Stand p l e R s m args below meth c T locs cells slots) (eT : T.heap = h) {aty : ArrayType} (w : (Cond.arrayClass (newarray.typeOf aty)).before a0 Z = true) {z : Int32} (i : Nat) (hz : z.toInt = i) (cap : Nat) (hcap : i ≤ cap) (hd : decode bytes pc = .ok (.newarray aty, 2)) (hn : pc + 2 = n) (hb8 : cap * 8 ≤ 536870912) (hc : cells + 1 ≤ R.cells) (hl : slots + cap ≤ R.slots) {ad : String} (had : "[" ++ (newarray.typeOf aty).toString = ad)
    (k : ∀ T' h' a, a = h.size → Stand p l e R s m args below meth c T' locs (cells + 1) (slots + cap) → T'.heap = h' → Ext h h' → Arl Z h' a (newarray.typeOf aty) (List.replicate i (defaultValue (newarray.typeOf aty))) → Exa Z h' a ad → Go p e below K (T'.setTop (mkF m n ls (.ref a :: rest)))) : Go p e below K (T.setTop (mkF m pc ls (.int z :: rest))) := by
  obtain ⟨q1, q2⟩ := nat_idx hz
  exact Go.newPE C X eT w hd hn q2 cap (by rw [q1]; exact hcap) hb8 hc hl had fun T' h' a' cA e1 X' e' E A x' => k T' h' a' e1 X' e' E (Arl.new A hz) x'
theorem Go.cloneL (C : Cx p s m meth c Z own bytes maxL ret nm) (X : Stand p l e R s m args below meth c T locs cells slots) (eT : T.heap = h) {index : Nat} {ad : String} (w1 : (Cond.methodLink own index ⟨ad, "clone", "()Ljava/lang/Object;"⟩).before a0 Z = true) (w2 : (Cond.sameMethod ad "java/lang/Object" "clone" "()Ljava/lang/Object;").before a0 Z = true) (w3 : (Cond.native ⟨"java/lang/Object", "clone", "()Ljava/lang/Object;"⟩).before a0 Z = true) (w4 : (Cond.instanceMethod ⟨"java/lang/Object", "clone", "()Ljava/lang/Object;"⟩).before a0 Z = true) (w5 : (Cond.selects ad ⟨ad, "clone", "()Ljava/lang/Object;"⟩ ⟨"java/lang/Object", "clone", "()Ljava/lang/Object;"⟩).before a0 Z = true) (w6 : (Cond.castable ad "java/lang/Cloneable").before a0 Z = true)
    (F : Arl Z h a ty vs) (E : Exa Z h a ad) (hfit : ∀ v ∈ vs, fits ty v = true) (hd : decode bytes pc = .ok (.invokevirtual index, 3)) (hn : pc + 3 = n) (hsz : ls.size = maxL) (hf : 1 ≤ R.frames) {W : Nat} (hW : (rest.map fun v => v.category).sum = W) (hl : W + 14 ≤ R.locals) (cap : Nat) (hcap : vs.length ≤ cap) (hc : cells + 1 ≤ R.cells) (hsl : slots + cap ≤ R.slots)
    (k : ∀ T' h' b, b = h.size → Stand p l e R s m args below meth c T' locs (cells + 1) (slots + cap) → T'.heap = h' → Ext h h' → Arl Z h' b ty vs → Exa Z h' b ad → Go p e below K (T'.setTop (mkF m n ls (.ref b :: rest)))) : Go p e below K (T.setTop (mkF m pc ls (.ref a :: rest))) := by
  obtain ⟨cl, A, q1, q2⟩ := F
  have FC : FitC Z cl := fitC_of A fun i hi v hv => hfit v (by rw [← q1]; exact Array.mem_toList_iff.mpr (Array.mem_of_getElem? hv))
  exact Go.cloneA C X eT w1 w2 w3 w4 w5 w6 A E FC hd hn hsz hf hW hl cap (by rw [← Array.length_toList, q1]; exact hcap) hc hsl fun T' h' b e1 X' e' E' A' x' => k T' h' b e1 X' e' E' ⟨_, A', q1, q2⟩ x'
end Cxs
/-! from the words of a case -/
theorem fldI {args : Array Value} {t : Term} {C f d : String} {k : Int32} (ev : t.eval args s none [] s = some (.ref a)) (q : (Cond.eq (.field t C f d) (.int k)).value args s none s [] = some true) : Fld s s.heap a C f d (.int k) := by
  obtain ⟨x, y, e1, e2, k1, k2⟩ := cmp_v (Or.inl q)
  cases e2
  obtain ⟨z, rfl⟩ := k2
  have e3 : (Term.int k).eval args s none [] s = some (.int k) := rfl
  have q2 : (Cond.eq (.field t C f d) (.int k)).value args s none s [] = some (decide (z = k)) := by simp [Cond.value, e1, e3]
  have q3 := gotT q2 q
  subst q3
  rw [fld_at ev] at e1
  exact Fld.start e1
theorem staE {args : Array Value} {C n d K : String} (q : (Cond.exactly (.static C n d) K).value args s none s [] = some true) (w1 : (Cond.initialized C).before args s = true) (w2 : (Cond.laysStatic C n d).before args s = true) : ∃ a, (Term.static C n d).eval args s none [] s = some (.ref a) ∧ Sta s s.heap C n d (.ref a) ∧ Exa s s.heap a K := by
  obtain ⟨a, ev⟩ := exa_v q
  exact ⟨a, ev, Sta.start ev (Or.inr ⟨w1, w2⟩), Exa.start ev q⟩
end OwnB
end Jvm.RoadKit
@@BLOCK:NumsL.lean.txt@@
namespace Jvm.Pilot.@@N@@
open Jvm Jvm.ClassFile Sem Op Lib Jvm.Free Jvm.Stand Jvm.LawKit Jvm.RoadKit Bundle Jvm.Pilot.@@N@@.Jvm.D
/-! plain functions: what the graph's lists hold, as naturals -/
def nI (n : Nat) : Value := .int (Int32.ofNat n)
def bump (l : List Nat) (i : Nat) : List Nat := l.set i (l.getD i 0 + 1)
def place : List Nat → Nat → List Nat → List Nat → Option (List Nat)
  | [], _, _, listed => some listed
  | w :: ws, i, next, listed => if w < next.length ∧ next.getD w 0 < listed.length then place ws (i + 1) (bump next w) (listed.set (next.getD w 0) i) else none
theorem own_toI {n : Nat} (h : n < 2 ^ 31) : (Int32.ofNat n).toInt = n := Int32.toInt_ofNat_small h
theorem own_addI (a b : Nat) : Int32.ofNat a + Int32.ofNat b = Int32.ofNat (a + b) := (Int32.ofNat_add a b).symm
theorem own_sucI (a : Nat) : Int32.ofNat a + (1 : Int32) = Int32.ofNat (a + 1) := own_addI a 1
theorem own_nat (xs : List Nat) {k : Nat} (hk : k < xs.length) : (xs.map nI)[k]? = some (nI (xs.getD k 0)) := by simp [List.getD_eq_getElem?_getD, hk]
theorem own_small (x : Int32) (m : Int32) (k : Nat) (hm : m.toInt = k) (h0 : 0 < k) : ∃ n, n < k ∧ (x &&& (2147483647 : Int32)) % m = Int32.ofNat n := by
  have h := Jvm.Kit.i32_mask x (2147483647 : Int32) (k := 31) (by decide) (by decide)
  have h2 := Jvm.Kit.i32_rem_nonneg (x := x &&& (2147483647 : Int32)) (y := m) (by rw [h]; omega)
  have h3 : 0 ≤ ((x &&& (2147483647 : Int32)) % m).toInt ∧ ((x &&& (2147483647 : Int32)) % m).toInt < k := by
    rw [h2, hm]; exact ⟨Int.emod_nonneg _ (by omega), Int.emod_lt_of_pos _ (by omega)⟩
  have h4 := m.toInt_lt
  refine ⟨((x &&& (2147483647 : Int32)) % m).toInt.toNat, by omega, Int32.toInt_inj.mp ?_⟩
  rw [own_toI (by omega)]; omega
theorem own_lt {a b : Nat} (ha : a < 2 ^ 31) (hb : b < 2 ^ 31) : Int32.ofNat a < Int32.ofNat b ↔ a < b := by
  rw [Int32.lt_iff_toInt_lt, own_toI ha, own_toI hb]; omega
theorem own_lt0 {a : Nat} (ha : a < 2 ^ 31) : ¬ Int32.ofNat a < (0 : Int32) := by
  have h := @own_lt a 0 ha (by decide)
  exact fun q => absurd (h.mp q) (by omega)
theorem own_eq {a b : Nat} (ha : a < 2 ^ 31) (hb : b < 2 ^ 31) : Int32.ofNat a = Int32.ofNat b ↔ a = b := by
  refine ⟨fun q => ?_, fun q => by rw [q]⟩
  have h := congrArg Int32.toInt q
  rw [own_toI ha, own_toI hb] at h; omega
theorem own_setI (xs : List Nat) (k v : Nat) : (xs.map nI).set k (.int (Int32.ofNat v)) = (xs.set k v).map nI := by rw [List.map_set]; rfl
theorem own_fitI (xs : List Nat) : ∀ v ∈ xs.map nI, fits .int v = true := fun v hv => by
  obtain ⟨n, -, rfl⟩ := List.mem_map.mp hv; rfl
def psum (l : List Nat) : List Nat := [l.getD 0 0, l.getD 1 0 + l.getD 0 0, l.getD 2 0 + (l.getD 1 0 + l.getD 0 0), l.getD 3 0 + (l.getD 2 0 + (l.getD 1 0 + l.getD 0 0))]
def incS (k0 k1 k2 : Nat) : List Nat := bump (bump (bump [0, 0, 0, 0] (k0 + 1)) (k1 + 1)) (k2 + 1)
/-- n turns from position p on -/
def sumI (gs : List Int32) (inc : List Nat) : Nat → Nat → Int32 → Int32
  | 0, _, acc => acc
  | n + 1, p, acc => sumI gs inc n (p + 1) (acc + (gs.getD (inc.getD p 0 + 1) 0 - gs.getD (inc.getD p 0) 0))
theorem own_three {k : Nat} (h : k < 3) : k = 0 ∨ k = 1 ∨ k = 2 := by omega
theorem own_bump_len (l : List Nat) (i : Nat) : (bump l i).length = l.length := by simp [bump]
/-- the incoming list is there, of three groups -/
theorem own_place : ∀ k0 k1 k2 : Fin 3, ∃ r0 r1 r2 : Fin 3, place [k0.1, k1.1, k2.1] 0 (psum (incS k0.1 k1.1 k2.1)) [0, 0, 0] = some [r0.1, r1.1, r2.1] := by decide +kernel
theorem own_range : ∀ k0 k1 k2 kw : Fin 3, (psum (incS k0.1 k1.1 k2.1)).getD kw.1 0 ≤ (psum (incS k0.1 k1.1 k2.1)).getD (kw.1 + 1) 0 ∧ (psum (incS k0.1 k1.1 k2.1)).getD (kw.1 + 1) 0 ≤ 3 := by decide +kernel
def expI (b1 b2 : Int32) (k0 k1 k2 kw : Nat) : Int32 :=
  let e1 := if k0 = kw then (0 : Int32) + b1 else 0
  let e2 := if k1 = kw then e1 + (b2 - b1) else e1
  if k2 = kw then e2 + (6 - b2) else e2
set_option maxHeartbeats 4000000 in
theorem own_count (b1 b2 : Int32) {k0 k1 k2 kw : Nat} (h0 : k0 < 3) (h1 : k1 < 3) (h2 : k2 < 3) (hw : kw < 3) {res : List Nat} (hres : place [k0, k1, k2] 0 (psum (incS k0 k1 k2)) [0, 0, 0] = some res) :
    sumI [0, b1, b2, 6] res ((psum (incS k0 k1 k2)).getD (kw + 1) 0 - (psum (incS k0 k1 k2)).getD kw 0) ((psum (incS k0 k1 k2)).getD kw 0) 0 = expI b1 b2 k0 k1 k2 kw := by
  rcases own_three h0 with rfl | rfl | rfl <;> rcases own_three h1 with rfl | rfl | rfl <;> rcases own_three h2 with rfl | rfl | rfl <;> (simp [place, psum, incS, bump] at hres; subst hres; rcases own_three hw with rfl | rfl | rfl <;> simp [psum, incS, bump, sumI, expI])

theorem d1_0 : decode prog_23_method_3_code 0 = .ok (.aload_n 0, 1) := by decide +kernel
theorem d1_1 : decode prog_23_method_3_code 1 = .ok (.invokespecial 23, 3) := by decide +kernel
theorem d1_4 : decode prog_23_method_3_code 4 = .ok (.iload_n 1, 1) := by decide +kernel
theorem d1_5 : decode prog_23_method_3_code 5 = .ok (.ifCond .ge 17, 3) := by decide +kernel
theorem d1_8 : decode prog_23_method_3_code 8 = .ok (.new 28, 3) := by decide +kernel
theorem d1_11 : decode prog_23_method_3_code 11 = .ok (.dup, 1) := by decide +kernel
theorem d1_12 : decode prog_23_method_3_code 12 = .ok (.iload_n 1, 1) := by decide +kernel
theorem d1_18 : decode prog_23_method_3_code 18 = .ok (.invokespecial 34, 3) := by decide +kernel
theorem d1_21 : decode prog_23_method_3_code 21 = .ok (.athrow, 1) := by decide +kernel
theorem d1_22 : decode prog_23_method_3_code 22 = .ok (.aload_n 3, 1) := by decide +kernel
theorem d1_23 : decode prog_23_method_3_code 23 = .ok (.arraylength, 1) := by decide +kernel
theorem d1_24 : decode prog_23_method_3_code 24 = .ok (.aload 4, 2) := by decide +kernel
theorem d1_26 : decode prog_23_method_3_code 26 = .ok (.arraylength, 1) := by decide +kernel
theorem d1_27 : decode prog_23_method_3_code 27 = .ok (.iconst 1, 1) := by decide +kernel
theorem d1_28 : decode prog_23_method_3_code 28 = .ok (.iadd, 1) := by decide +kernel
theorem d1_29 : decode prog_23_method_3_code 29 = .ok (.if_icmp .ne 19, 3) := by decide +kernel
theorem d1_32 : decode prog_23_method_3_code 32 = .ok (.aload_n 3, 1) := by decide +kernel
theorem d1_33 : decode prog_23_method_3_code 33 = .ok (.iconst 0, 1) := by decide +kernel
theorem d1_34 : decode prog_23_method_3_code 34 = .ok (.iaload, 1) := by decide +kernel
theorem d1_35 : decode prog_23_method_3_code 35 = .ok (.ifCond .ne 13, 3) := by decide +kernel
theorem d1_38 : decode prog_23_method_3_code 38 = .ok (.aload_n 3, 1) := by decide +kernel
theorem d1_39 : decode prog_23_method_3_code 39 = .ok (.aload 4, 2) := by decide +kernel
theorem d1_41 : decode prog_23_method_3_code 41 = .ok (.arraylength, 1) := by decide +kernel
theorem d1_42 : decode prog_23_method_3_code 42 = .ok (.iaload, 1) := by decide +kernel
theorem d1_43 : decode prog_23_method_3_code 43 = .ok (.aload_n 2, 1) := by decide +kernel
theorem d1_44 : decode prog_23_method_3_code 44 = .ok (.arraylength, 1) := by decide +kernel
theorem d1_45 : decode prog_23_method_3_code 45 = .ok (.if_icmp .eq 21, 3) := by decide +kernel
theorem d1_48 : decode prog_23_method_3_code 48 = .ok (.new 28, 3) := by decide +kernel
theorem d1_51 : decode prog_23_method_3_code 51 = .ok (.dup, 1) := by decide +kernel
theorem d1_52 : decode prog_23_method_3_code 52 = .ok (.aload 4, 2) := by decide +kernel
theorem d1_54 : decode prog_23_method_3_code 54 = .ok (.arraylength, 1) := by decide +kernel
theorem d1_55 : decode prog_23_method_3_code 55 = .ok (.aload_n 2, 1) := by decide +kernel
theorem d1_56 : decode prog_23_method_3_code 56 = .ok (.arraylength, 1) := by decide +kernel
theorem d1_62 : decode prog_23_method_3_code 62 = .ok (.invokespecial 34, 3) := by decide +kernel
theorem d1_65 : decode prog_23_method_3_code 65 = .ok (.athrow, 1) := by decide +kernel
theorem d1_66 : decode prog_23_method_3_code 66 = .ok (.aload_n 0, 1) := by decide +kernel
theorem d1_67 : decode prog_23_method_3_code 67 = .ok (.iload_n 1, 1) := by decide +kernel
theorem d1_68 : decode prog_23_method_3_code 68 = .ok (.putfield 40, 3) := by decide +kernel
theorem d1_71 : decode prog_23_method_3_code 71 = .ok (.aload_n 0, 1) := by decide +kernel
theorem d1_72 : decode prog_23_method_3_code 72 = .ok (.aload_n 2, 1) := by decide +kernel
theorem d1_73 : decode prog_23_method_3_code 73 = .ok (.putfield 44, 3) := by decide +kernel
theorem d1_76 : decode prog_23_method_3_code 76 = .ok (.aload_n 0, 1) := by decide +kernel
theorem d1_77 : decode prog_23_method_3_code 77 = .ok (.aload_n 3, 1) := by decide +kernel
theorem d1_78 : decode prog_23_method_3_code 78 = .ok (.putfield 48, 3) := by decide +kernel
theorem d1_81 : decode prog_23_method_3_code 81 = .ok (.aload_n 0, 1) := by decide +kernel
theorem d1_82 : decode prog_23_method_3_code 82 = .ok (.aload 4, 2) := by decide +kernel
theorem d1_84 : decode prog_23_method_3_code 84 = .ok (.putfield 51, 3) := by decide +kernel
theorem d1_87 : decode prog_23_method_3_code 87 = .ok (.aload_n 0, 1) := by decide +kernel
theorem d1_88 : decode prog_23_method_3_code 88 = .ok (.aload_n 2, 1) := by decide +kernel
theorem d1_89 : decode prog_23_method_3_code 89 = .ok (.arraylength, 1) := by decide +kernel
theorem d1_90 : decode prog_23_method_3_code 90 = .ok (.newarray .int, 2) := by decide +kernel
theorem d1_92 : decode prog_23_method_3_code 92 = .ok (.putfield 54, 3) := by decide +kernel
theorem d1_95 : decode prog_23_method_3_code 95 = .ok (.aload_n 0, 1) := by decide +kernel
theorem d1_96 : decode prog_23_method_3_code 96 = .ok (.iload_n 1, 1) := by decide +kernel
theorem d1_97 : decode prog_23_method_3_code 97 = .ok (.iconst 1, 1) := by decide +kernel
theorem d1_98 : decode prog_23_method_3_code 98 = .ok (.iadd, 1) := by decide +kernel
theorem d1_99 : decode prog_23_method_3_code 99 = .ok (.newarray .int, 2) := by decide +kernel
theorem d1_101 : decode prog_23_method_3_code 101 = .ok (.putfield 57, 3) := by decide +kernel
theorem d1_104 : decode prog_23_method_3_code 104 = .ok (.iconst 0, 1) := by decide +kernel
theorem d1_105 : decode prog_23_method_3_code 105 = .ok (.istore 5, 2) := by decide +kernel
theorem d1_107 : decode prog_23_method_3_code 107 = .ok (.iload 5, 2) := by decide +kernel
theorem d1_109 : decode prog_23_method_3_code 109 = .ok (.aload 4, 2) := by decide +kernel
theorem d1_111 : decode prog_23_method_3_code 111 = .ok (.arraylength, 1) := by decide +kernel
theorem d1_112 : decode prog_23_method_3_code 112 = .ok (.if_icmp .ge 98, 3) := by decide +kernel
theorem d1_115 : decode prog_23_method_3_code 115 = .ok (.aload_n 3, 1) := by decide +kernel
theorem d1_116 : decode prog_23_method_3_code 116 = .ok (.iload 5, 2) := by decide +kernel
theorem d1_118 : decode prog_23_method_3_code 118 = .ok (.iconst 1, 1) := by decide +kernel
theorem d1_119 : decode prog_23_method_3_code 119 = .ok (.iadd, 1) := by decide +kernel
theorem d1_120 : decode prog_23_method_3_code 120 = .ok (.iaload, 1) := by decide +kernel
theorem d1_121 : decode prog_23_method_3_code 121 = .ok (.aload_n 3, 1) := by decide +kernel
theorem d1_122 : decode prog_23_method_3_code 122 = .ok (.iload 5, 2) := by decide +kernel
theorem d1_124 : decode prog_23_method_3_code 124 = .ok (.iaload, 1) := by decide +kernel
theorem d1_125 : decode prog_23_method_3_code 125 = .ok (.if_icmp .gt 18, 3) := by decide +kernel
theorem d1_128 : decode prog_23_method_3_code 128 = .ok (.new 28, 3) := by decide +kernel
theorem d1_131 : decode prog_23_method_3_code 131 = .ok (.dup, 1) := by decide +kernel
theorem d1_132 : decode prog_23_method_3_code 132 = .ok (.iload 5, 2) := by decide +kernel
theorem d1_139 : decode prog_23_method_3_code 139 = .ok (.invokespecial 34, 3) := by decide +kernel
theorem d1_142 : decode prog_23_method_3_code 142 = .ok (.athrow, 1) := by decide +kernel
theorem d1_143 : decode prog_23_method_3_code 143 = .ok (.aload_n 0, 1) := by decide +kernel
theorem d1_144 : decode prog_23_method_3_code 144 = .ok (.aload_n 3, 1) := by decide +kernel
theorem d1_145 : decode prog_23_method_3_code 145 = .ok (.iload 5, 2) := by decide +kernel
theorem d1_147 : decode prog_23_method_3_code 147 = .ok (.iaload, 1) := by decide +kernel
theorem d1_148 : decode prog_23_method_3_code 148 = .ok (.aload 4, 2) := by decide +kernel
theorem d1_150 : decode prog_23_method_3_code 150 = .ok (.iload 5, 2) := by decide +kernel
theorem d1_152 : decode prog_23_method_3_code 152 = .ok (.iaload, 1) := by decide +kernel
theorem d1_153 : decode prog_23_method_3_code 153 = .ok (.invokevirtual 61, 3) := by decide +kernel
theorem d1_156 : decode prog_23_method_3_code 156 = .ok (.aload_n 3, 1) := by decide +kernel
theorem d1_157 : decode prog_23_method_3_code 157 = .ok (.iload 5, 2) := by decide +kernel
theorem d1_159 : decode prog_23_method_3_code 159 = .ok (.iaload, 1) := by decide +kernel
theorem d1_160 : decode prog_23_method_3_code 160 = .ok (.istore 6, 2) := by decide +kernel
theorem d1_162 : decode prog_23_method_3_code 162 = .ok (.iload 6, 2) := by decide +kernel
theorem d1_164 : decode prog_23_method_3_code 164 = .ok (.aload_n 3, 1) := by decide +kernel
theorem d1_165 : decode prog_23_method_3_code 165 = .ok (.iload 5, 2) := by decide +kernel
theorem d1_167 : decode prog_23_method_3_code 167 = .ok (.iconst 1, 1) := by decide +kernel
theorem d1_168 : decode prog_23_method_3_code 168 = .ok (.iadd, 1) := by decide +kernel
theorem d1_169 : decode prog_23_method_3_code 169 = .ok (.iaload, 1) := by decide +kernel
theorem d1_170 : decode prog_23_method_3_code 170 = .ok (.if_icmp .ge 18, 3) := by decide +kernel
theorem d1_173 : decode prog_23_method_3_code 173 = .ok (.aload_n 0, 1) := by decide +kernel
theorem d1_174 : decode prog_23_method_3_code 174 = .ok (.getfield 54, 3) := by decide +kernel
theorem d1_177 : decode prog_23_method_3_code 177 = .ok (.iload 6, 2) := by decide +kernel
theorem d1_179 : decode prog_23_method_3_code 179 = .ok (.iload 5, 2) := by decide +kernel
theorem d1_181 : decode prog_23_method_3_code 181 = .ok (.iastore, 1) := by decide +kernel
theorem d1_182 : decode prog_23_method_3_code 182 = .ok (.iinc 6 1, 3) := by decide +kernel
theorem d1_185 : decode prog_23_method_3_code 185 = .ok (.goto (-23), 3) := by decide +kernel
theorem d1_188 : decode prog_23_method_3_code 188 = .ok (.aload_n 0, 1) := by decide +kernel
theorem d1_189 : decode prog_23_method_3_code 189 = .ok (.getfield 57, 3) := by decide +kernel
theorem d1_192 : decode prog_23_method_3_code 192 = .ok (.aload 4, 2) := by decide +kernel
theorem d1_194 : decode prog_23_method_3_code 194 = .ok (.iload 5, 2) := by decide +kernel
theorem d1_196 : decode prog_23_method_3_code 196 = .ok (.iaload, 1) := by decide +kernel
theorem d1_197 : decode prog_23_method_3_code 197 = .ok (.iconst 1, 1) := by decide +kernel
theorem d1_198 : decode prog_23_method_3_code 198 = .ok (.iadd, 1) := by decide +kernel
theorem d1_199 : decode prog_23_method_3_code 199 = .ok (.dup2, 1) := by decide +kernel
theorem d1_200 : decode prog_23_method_3_code 200 = .ok (.iaload, 1) := by decide +kernel
theorem d1_201 : decode prog_23_method_3_code 201 = .ok (.iconst 1, 1) := by decide +kernel
theorem d1_202 : decode prog_23_method_3_code 202 = .ok (.iadd, 1) := by decide +kernel
theorem d1_203 : decode prog_23_method_3_code 203 = .ok (.iastore, 1) := by decide +kernel
theorem d1_204 : decode prog_23_method_3_code 204 = .ok (.iinc 5 1, 3) := by decide +kernel
theorem d1_207 : decode prog_23_method_3_code 207 = .ok (.goto (-100), 3) := by decide +kernel
theorem d1_210 : decode prog_23_method_3_code 210 = .ok (.aload_n 0, 1) := by decide +kernel
theorem d1_211 : decode prog_23_method_3_code 211 = .ok (.iload_n 1, 1) := by decide +kernel
theorem d1_212 : decode prog_23_method_3_code 212 = .ok (.iconst 1, 1) := by decide +kernel
theorem d1_213 : decode prog_23_method_3_code 213 = .ok (.iadd, 1) := by decide +kernel
theorem d1_214 : decode prog_23_method_3_code 214 = .ok (.newarray .int, 2) := by decide +kernel
theorem d1_216 : decode prog_23_method_3_code 216 = .ok (.putfield 65, 3) := by decide +kernel
theorem d1_219 : decode prog_23_method_3_code 219 = .ok (.iconst 0, 1) := by decide +kernel
theorem d1_220 : decode prog_23_method_3_code 220 = .ok (.istore 5, 2) := by decide +kernel
theorem d1_222 : decode prog_23_method_3_code 222 = .ok (.iload 5, 2) := by decide +kernel
theorem d1_224 : decode prog_23_method_3_code 224 = .ok (.aload_n 2, 1) := by decide +kernel
theorem d1_225 : decode prog_23_method_3_code 225 = .ok (.arraylength, 1) := by decide +kernel
theorem d1_226 : decode prog_23_method_3_code 226 = .ok (.if_icmp .ge 34, 3) := by decide +kernel
theorem d1_229 : decode prog_23_method_3_code 229 = .ok (.aload_n 0, 1) := by decide +kernel
theorem d1_230 : decode prog_23_method_3_code 230 = .ok (.iload 5, 2) := by decide +kernel
theorem d1_232 : decode prog_23_method_3_code 232 = .ok (.aload_n 2, 1) := by decide +kernel
theorem d1_233 : decode prog_23_method_3_code 233 = .ok (.iload 5, 2) := by decide +kernel
theorem d1_235 : decode prog_23_method_3_code 235 = .ok (.iaload, 1) := by decide +kernel
theorem d1_236 : decode prog_23_method_3_code 236 = .ok (.invokevirtual 61, 3) := by decide +kernel
theorem d1_239 : decode prog_23_method_3_code 239 = .ok (.aload_n 0, 1) := by decide +kernel
theorem d1_240 : decode prog_23_method_3_code 240 = .ok (.getfield 65, 3) := by decide +kernel
theorem d1_243 : decode prog_23_method_3_code 243 = .ok (.aload_n 2, 1) := by decide +kernel
theorem d1_244 : decode prog_23_method_3_code 244 = .ok (.iload 5, 2) := by decide +kernel
theorem d1_246 : decode prog_23_method_3_code 246 = .ok (.iaload, 1) := by decide +kernel
theorem d1_247 : decode prog_23_method_3_code 247 = .ok (.iconst 1, 1) := by decide +kernel
theorem d1_248 : decode prog_23_method_3_code 248 = .ok (.iadd, 1) := by decide +kernel
theorem d1_249 : decode prog_23_method_3_code 249 = .ok (.dup2, 1) := by decide +kernel
theorem d1_250 : decode prog_23_method_3_code 250 = .ok (.iaload, 1) := by decide +kernel
theorem d1_251 : decode prog_23_method_3_code 251 = .ok (.iconst 1, 1) := by decide +kernel
theorem d1_252 : decode prog_23_method_3_code 252 = .ok (.iadd, 1) := by decide +kernel
theorem d1_253 : decode prog_23_method_3_code 253 = .ok (.iastore, 1) := by decide +kernel
theorem d1_254 : decode prog_23_method_3_code 254 = .ok (.iinc 5 1, 3) := by decide +kernel
theorem d1_257 : decode prog_23_method_3_code 257 = .ok (.goto (-35), 3) := by decide +kernel
theorem d1_260 : decode prog_23_method_3_code 260 = .ok (.aload_n 0, 1) := by decide +kernel
theorem d1_261 : decode prog_23_method_3_code 261 = .ok (.aload_n 2, 1) := by decide +kernel
theorem d1_262 : decode prog_23_method_3_code 262 = .ok (.aload_n 0, 1) := by decide +kernel
theorem d1_263 : decode prog_23_method_3_code 263 = .ok (.getfield 65, 3) := by decide +kernel
theorem d1_266 : decode prog_23_method_3_code 266 = .ok (.invokestatic 68, 3) := by decide +kernel
theorem d1_269 : decode prog_23_method_3_code 269 = .ok (.putfield 72, 3) := by decide +kernel
theorem d1_272 : decode prog_23_method_3_code 272 = .ok (.aload_n 0, 1) := by decide +kernel
theorem d1_273 : decode prog_23_method_3_code 273 = .ok (.aload 4, 2) := by decide +kernel
theorem d1_275 : decode prog_23_method_3_code 275 = .ok (.aload_n 0, 1) := by decide +kernel
theorem d1_276 : decode prog_23_method_3_code 276 = .ok (.getfield 57, 3) := by decide +kernel
theorem d1_279 : decode prog_23_method_3_code 279 = .ok (.invokestatic 68, 3) := by decide +kernel
theorem d1_282 : decode prog_23_method_3_code 282 = .ok (.putfield 75, 3) := by decide +kernel
theorem d1_285 : decode prog_23_method_3_code 285 = .ok (.return_, 1) := by decide +kernel
theorem d3_0 : decode prog_23_method_4_code 0 = .ok (.iload_n 2, 1) := by decide +kernel
theorem d3_1 : decode prog_23_method_4_code 1 = .ok (.ifCond .lt 11, 3) := by decide +kernel
theorem d3_4 : decode prog_23_method_4_code 4 = .ok (.iload_n 2, 1) := by decide +kernel
theorem d3_5 : decode prog_23_method_4_code 5 = .ok (.aload_n 0, 1) := by decide +kernel
theorem d3_6 : decode prog_23_method_4_code 6 = .ok (.getfield 40, 3) := by decide +kernel
theorem d3_9 : decode prog_23_method_4_code 9 = .ok (.if_icmp .lt 24, 3) := by decide +kernel
theorem d3_12 : decode prog_23_method_4_code 12 = .ok (.new 28, 3) := by decide +kernel
theorem d3_15 : decode prog_23_method_4_code 15 = .ok (.dup, 1) := by decide +kernel
theorem d3_16 : decode prog_23_method_4_code 16 = .ok (.iload_n 1, 1) := by decide +kernel
theorem d3_17 : decode prog_23_method_4_code 17 = .ok (.iload_n 2, 1) := by decide +kernel
theorem d3_18 : decode prog_23_method_4_code 18 = .ok (.aload_n 0, 1) := by decide +kernel
theorem d3_19 : decode prog_23_method_4_code 19 = .ok (.getfield 40, 3) := by decide +kernel
theorem d3_22 : decode prog_23_method_4_code 22 = .ok (.iconst 1, 1) := by decide +kernel
theorem d3_23 : decode prog_23_method_4_code 23 = .ok (.isub, 1) := by decide +kernel
theorem d3_29 : decode prog_23_method_4_code 29 = .ok (.invokespecial 34, 3) := by decide +kernel
theorem d3_32 : decode prog_23_method_4_code 32 = .ok (.athrow, 1) := by decide +kernel
theorem d3_33 : decode prog_23_method_4_code 33 = .ok (.return_, 1) := by decide +kernel
theorem d4_0 : decode prog_23_method_5_code 0 = .ok (.iconst 0, 1) := by decide +kernel
theorem d4_1 : decode prog_23_method_5_code 1 = .ok (.istore_n 2, 1) := by decide +kernel
theorem d4_2 : decode prog_23_method_5_code 2 = .ok (.iload_n 2, 1) := by decide +kernel
theorem d4_3 : decode prog_23_method_5_code 3 = .ok (.iconst 1, 1) := by decide +kernel
theorem d4_4 : decode prog_23_method_5_code 4 = .ok (.iadd, 1) := by decide +kernel
theorem d4_5 : decode prog_23_method_5_code 5 = .ok (.aload_n 1, 1) := by decide +kernel
theorem d4_6 : decode prog_23_method_5_code 6 = .ok (.arraylength, 1) := by decide +kernel
theorem d4_7 : decode prog_23_method_5_code 7 = .ok (.if_icmp .ge 20, 3) := by decide +kernel
theorem d4_10 : decode prog_23_method_5_code 10 = .ok (.aload_n 1, 1) := by decide +kernel
theorem d4_11 : decode prog_23_method_5_code 11 = .ok (.iload_n 2, 1) := by decide +kernel
theorem d4_12 : decode prog_23_method_5_code 12 = .ok (.iconst 1, 1) := by decide +kernel
theorem d4_13 : decode prog_23_method_5_code 13 = .ok (.iadd, 1) := by decide +kernel
theorem d4_14 : decode prog_23_method_5_code 14 = .ok (.dup2, 1) := by decide +kernel
theorem d4_15 : decode prog_23_method_5_code 15 = .ok (.iaload, 1) := by decide +kernel
theorem d4_16 : decode prog_23_method_5_code 16 = .ok (.aload_n 1, 1) := by decide +kernel
theorem d4_17 : decode prog_23_method_5_code 17 = .ok (.iload_n 2, 1) := by decide +kernel
theorem d4_18 : decode prog_23_method_5_code 18 = .ok (.iaload, 1) := by decide +kernel
theorem d4_19 : decode prog_23_method_5_code 19 = .ok (.iadd, 1) := by decide +kernel
theorem d4_20 : decode prog_23_method_5_code 20 = .ok (.iastore, 1) := by decide +kernel
theorem d4_21 : decode prog_23_method_5_code 21 = .ok (.iinc 2 1, 3) := by decide +kernel
theorem d4_24 : decode prog_23_method_5_code 24 = .ok (.goto (-22), 3) := by decide +kernel
theorem d4_27 : decode prog_23_method_5_code 27 = .ok (.aload_n 0, 1) := by decide +kernel
theorem d4_28 : decode prog_23_method_5_code 28 = .ok (.arraylength, 1) := by decide +kernel
theorem d4_29 : decode prog_23_method_5_code 29 = .ok (.newarray .int, 2) := by decide +kernel
theorem d4_31 : decode prog_23_method_5_code 31 = .ok (.astore_n 2, 1) := by decide +kernel
theorem d4_32 : decode prog_23_method_5_code 32 = .ok (.aload_n 1, 1) := by decide +kernel
theorem d4_33 : decode prog_23_method_5_code 33 = .ok (.invokevirtual 81, 3) := by decide +kernel
theorem d4_36 : decode prog_23_method_5_code 36 = .ok (.checkcast 82, 3) := by decide +kernel
theorem d4_39 : decode prog_23_method_5_code 39 = .ok (.astore_n 3, 1) := by decide +kernel
theorem d4_40 : decode prog_23_method_5_code 40 = .ok (.iconst 0, 1) := by decide +kernel
theorem d4_41 : decode prog_23_method_5_code 41 = .ok (.istore 4, 2) := by decide +kernel
theorem d4_43 : decode prog_23_method_5_code 43 = .ok (.iload 4, 2) := by decide +kernel
theorem d4_45 : decode prog_23_method_5_code 45 = .ok (.aload_n 0, 1) := by decide +kernel
theorem d4_46 : decode prog_23_method_5_code 46 = .ok (.arraylength, 1) := by decide +kernel
theorem d4_47 : decode prog_23_method_5_code 47 = .ok (.if_icmp .ge 24, 3) := by decide +kernel
theorem d4_50 : decode prog_23_method_5_code 50 = .ok (.aload_n 2, 1) := by decide +kernel
theorem d4_51 : decode prog_23_method_5_code 51 = .ok (.aload_n 3, 1) := by decide +kernel
theorem d4_52 : decode prog_23_method_5_code 52 = .ok (.aload_n 0, 1) := by decide +kernel
theorem d4_53 : decode prog_23_method_5_code 53 = .ok (.iload 4, 2) := by decide +kernel
theorem d4_55 : decode prog_23_method_5_code 55 = .ok (.iaload, 1) := by decide +kernel
theorem d4_56 : decode prog_23_method_5_code 56 = .ok (.dup2, 1) := by decide +kernel
theorem d4_57 : decode prog_23_method_5_code 57 = .ok (.iaload, 1) := by decide +kernel
theorem d4_58 : decode prog_23_method_5_code 58 = .ok (.dup_x2, 1) := by decide +kernel
theorem d4_59 : decode prog_23_method_5_code 59 = .ok (.iconst 1, 1) := by decide +kernel
theorem d4_60 : decode prog_23_method_5_code 60 = .ok (.iadd, 1) := by decide +kernel
theorem d4_61 : decode prog_23_method_5_code 61 = .ok (.iastore, 1) := by decide +kernel
theorem d4_62 : decode prog_23_method_5_code 62 = .ok (.iload 4, 2) := by decide +kernel
theorem d4_64 : decode prog_23_method_5_code 64 = .ok (.iastore, 1) := by decide +kernel
theorem d4_65 : decode prog_23_method_5_code 65 = .ok (.iinc 4 1, 3) := by decide +kernel
theorem d4_68 : decode prog_23_method_5_code 68 = .ok (.goto (-25), 3) := by decide +kernel
theorem d4_71 : decode prog_23_method_5_code 71 = .ok (.aload_n 2, 1) := by decide +kernel
theorem d4_72 : decode prog_23_method_5_code 72 = .ok (.areturn, 1) := by decide +kernel
theorem d5_0 : decode prog_23_method_20_code 0 = .ok (.iconst 0, 1) := by decide +kernel
theorem d5_1 : decode prog_23_method_20_code 1 = .ok (.istore_n 2, 1) := by decide +kernel
theorem d5_2 : decode prog_23_method_20_code 2 = .ok (.aload_n 0, 1) := by decide +kernel
theorem d5_3 : decode prog_23_method_20_code 3 = .ok (.getfield 57, 3) := by decide +kernel
theorem d5_6 : decode prog_23_method_20_code 6 = .ok (.iload_n 1, 1) := by decide +kernel
theorem d5_7 : decode prog_23_method_20_code 7 = .ok (.iaload, 1) := by decide +kernel
theorem d5_8 : decode prog_23_method_20_code 8 = .ok (.istore_n 3, 1) := by decide +kernel
theorem d5_9 : decode prog_23_method_20_code 9 = .ok (.iload_n 3, 1) := by decide +kernel
theorem d5_10 : decode prog_23_method_20_code 10 = .ok (.aload_n 0, 1) := by decide +kernel
theorem d5_11 : decode prog_23_method_20_code 11 = .ok (.getfield 57, 3) := by decide +kernel
theorem d5_14 : decode prog_23_method_20_code 14 = .ok (.iload_n 1, 1) := by decide +kernel
theorem d5_15 : decode prog_23_method_20_code 15 = .ok (.iconst 1, 1) := by decide +kernel
theorem d5_16 : decode prog_23_method_20_code 16 = .ok (.iadd, 1) := by decide +kernel
theorem d5_17 : decode prog_23_method_20_code 17 = .ok (.iaload, 1) := by decide +kernel
theorem d5_18 : decode prog_23_method_20_code 18 = .ok (.if_icmp .ge 37, 3) := by decide +kernel
theorem d5_21 : decode prog_23_method_20_code 21 = .ok (.iload_n 2, 1) := by decide +kernel
theorem d5_22 : decode prog_23_method_20_code 22 = .ok (.aload_n 0, 1) := by decide +kernel
theorem d5_23 : decode prog_23_method_20_code 23 = .ok (.getfield 48, 3) := by decide +kernel
theorem d5_26 : decode prog_23_method_20_code 26 = .ok (.aload_n 0, 1) := by decide +kernel
theorem d5_27 : decode prog_23_method_20_code 27 = .ok (.getfield 75, 3) := by decide +kernel
theorem d5_30 : decode prog_23_method_20_code 30 = .ok (.iload_n 3, 1) := by decide +kernel
theorem d5_31 : decode prog_23_method_20_code 31 = .ok (.iaload, 1) := by decide +kernel
theorem d5_32 : decode prog_23_method_20_code 32 = .ok (.iconst 1, 1) := by decide +kernel
theorem d5_33 : decode prog_23_method_20_code 33 = .ok (.iadd, 1) := by decide +kernel
theorem d5_34 : decode prog_23_method_20_code 34 = .ok (.iaload, 1) := by decide +kernel
theorem d5_35 : decode prog_23_method_20_code 35 = .ok (.aload_n 0, 1) := by decide +kernel
theorem d5_36 : decode prog_23_method_20_code 36 = .ok (.getfield 48, 3) := by decide +kernel
theorem d5_39 : decode prog_23_method_20_code 39 = .ok (.aload_n 0, 1) := by decide +kernel
theorem d5_40 : decode prog_23_method_20_code 40 = .ok (.getfield 75, 3) := by decide +kernel
theorem d5_43 : decode prog_23_method_20_code 43 = .ok (.iload_n 3, 1) := by decide +kernel
theorem d5_44 : decode prog_23_method_20_code 44 = .ok (.iaload, 1) := by decide +kernel
theorem d5_45 : decode prog_23_method_20_code 45 = .ok (.iaload, 1) := by decide +kernel
theorem d5_46 : decode prog_23_method_20_code 46 = .ok (.isub, 1) := by decide +kernel
theorem d5_47 : decode prog_23_method_20_code 47 = .ok (.iadd, 1) := by decide +kernel
theorem d5_48 : decode prog_23_method_20_code 48 = .ok (.istore_n 2, 1) := by decide +kernel
theorem d5_49 : decode prog_23_method_20_code 49 = .ok (.iinc 3 1, 3) := by decide +kernel
theorem d5_52 : decode prog_23_method_20_code 52 = .ok (.goto (-43), 3) := by decide +kernel
theorem d5_55 : decode prog_23_method_20_code 55 = .ok (.iload_n 2, 1) := by decide +kernel
theorem d5_56 : decode prog_23_method_20_code 56 = .ok (.ireturn, 1) := by decide +kernel
theorem pn_0 : plainName "com/example/routes_to_timing/routestotiming/fabric/RoutingGraph" = true := by first | (simp [plainName, overriddenIn]; done) | decide +kernel
set_option maxRecDepth 65536 in
set_option maxHeartbeats 40000000 in
theorem rm3 (l : Launch) (Z : State) (a0 : Array Value) (hw : ∀ d ∈ tables_1, d.before a0 Z = true) (n0 : Nat) (h0 : Heap) (a : Addr) (q : Int32) (k : Nat) (hk : k < 3) (F : Fld Z h0 a "com/example/routes_to_timing/routestotiming/fabric/RoutingGraph" "wireCount" "I" (.int (3 : Int32))) :
    Ctr l Z (⟨"com/example/routes_to_timing/routestotiming/fabric/RoutingGraph", "checkWire", "(II)V"⟩ : MethodName) prog_23_method_4_code 3 none ({ frames := 0, cells := 0, slots := 0, locals := 0 } : Room) #[(.ref a), (.int q), (.int (Int32.ofNat k))] h0 (fun v h L => v = none ∧ L = [] ∧ h = h0) := by
  refine Ctr.mk (plainFor_of_name pn_0) (ls := #[.val (.ref a), .val (.int q), .val (.int (Int32.ofNat k))]) (fun m => by first | (simp [entryFrame, mkF, argsToLocals, Value.category]; done) | rfl) ?_
  intro p e s m below meth c T C X eT hs0
  have N := Fr.nil n0
  show Go p e below _ (T.setTop (mkF m 0 #[.val (.ref a), .val (.int q), .val (.int (Int32.ofNat k))] []))
  refine Go.iloadN C X d3_0 (n := 1) rfl rfl ?_
  refine Go.if0_lt C X d3_1 (n1 := 12) (n2 := 4) (by decide) (by decide) rfl (fun hc1 => ?_) (fun hc1 => ?_)
  · exact absurd hc1 (own_lt0 (by omega))
  · refine Go.iloadN C X d3_4 (n := 5) rfl rfl ?_
    refine Go.aloadN C X d3_5 (n := 6) rfl rfl rfl ?_
    refine Go.getF C X eT (wd hw 11 rfl) Via.refl F d3_6 (n := 9) rfl ?_
    clear X eT
    intro T X eT
    refine Go.icmp_lt C X d3_9 (n1 := 33) (n2 := 12) (by decide) (by decide) rfl (fun hc9 => ?_) (fun hc9 => ?_)
    · refine Go.ret0 C X eT d3_33 (by decide) (by decide) ?_
      exact ⟨rfl, rfl, rfl⟩
    · exact absurd ((own_lt (b := 3) (by omega) (by decide)).mpr hk) hc9
set_option maxRecDepth 65536 in
set_option maxHeartbeats 40000000 in
theorem loop4 {p : Program} {l : Launch} {e : Env} {R : Room} {s : State} {m : MethodId} {args : Array Value} {below : List Frame} {meth : Method} {c : Code} {Z : State} {h0 : Heap} {n0 : Nat} {a b c' d : Addr} {xs ps res : List Nat} {cells slots ck sk : Nat} (hck : cells ≤ ck) (hsk : slots ≤ sk) (hx6 : xs.length ≤ 6) (g_c : n0 ≤ c') (g_d : n0 ≤ d) (s_c : h0.size ≤ c') (s_d : h0.size ≤ d) (ne_a_c : a ≠ c') (ne_a_d : a ≠ d) (ne_b_c : b ≠ c') (ne_b_d : b ≠ d) (ne_c_d : c' ≠ d) (ws : List Nat) : ∀ (i : Nat) (nx ls : List Nat) {T : State} {locs : List Loc} {h : Heap},
    Cx p s m meth c Z "com/example/routes_to_timing/routestotiming/fabric/RoutingGraph" prog_23_method_5_code 5 (some (.array .int)) "listByWire" → Stand p l e R s m args below meth c T locs cells slots → T.heap = h → Arl Z h a .int (xs.map nI) → Arl Z h b .int (ps.map nI) → Arl Z h c' .int (ls.map nI) → Arl Z h d .int (nx.map nI) → Keep h0 h [b] → Fr n0 locs →
    (∀ j, j < ws.length → xs[i + j]? = ws[j]?) → i + ws.length = xs.length → nx.length = 4 → ls.length = xs.length → place ws i nx ls = some res →
    Go p e below (EndQ s (fun v h L => v = some (.ref c') ∧ Fr n0 L ∧ Keep h0 h [b] ∧ h0.size ≤ c' ∧ Arl Z h c' .int (res.map nI) ∧ Arl Z h b .int (ps.map nI)) ck sk) (T.setTop (mkF m 43 #[.val (.ref a), .val (.ref b), .val (.ref c'), .val (.ref d), .val (.int (Int32.ofNat i))] [])) := by
  induction ws with
  | nil =>
    intro i nx ls T locs h C X eT V_a V_b V_c' V_d KP N hxs hn hnx hls hq
    simp at hn
    show Go p e below _ (T.setTop (mkF m 43 #[.val (.ref a), .val (.ref b), .val (.ref c'), .val (.ref d), .val (.int (Int32.ofNat i))] []))
    refine Go.iload C X d4_43 (n := 45) rfl rfl ?_
    refine Go.aloadN C X d4_45 (n := 46) rfl rfl rfl ?_
    refine Go.lengthL C X eT V_a (z := (Int32.ofNat xs.length)) (by rw [own_toI (by omega)]; simp) d4_46 (n := 47) rfl ?_
    refine Go.icmp_ge C X d4_47 (n1 := 71) (n2 := 50) (by decide) (by decide) rfl (fun hc47 => ?_) (fun hc47 => ?_)
    · refine Go.aloadN C X d4_71 (n := 72) rfl rfl rfl ?_
      refine Go.retA C X eT rfl rfl rfl d4_72 hck hsk ?_
      cases hq
      exact ⟨rfl, N, KP, s_c, V_c', V_b⟩
    · exact absurd ((own_lt (by omega) (by omega)).mp hc47) (by omega)
  | cons w ws ih =>
    intro i nx ls T locs h C X eT V_a V_b V_c' V_d KP N hxs hn hnx hls hq
    simp at hn
    have hi : i < xs.length := by omega
    have hx : (xs.map nI)[i]? = some (.int (Int32.ofNat w)) := by
      have q := hxs 0 (by simp)
      simp at q; simp [q, nI]
    rw [place] at hq
    split at hq
    case isFalse => cases hq
    rename_i hc
    show Go p e below _ (T.setTop (mkF m 43 #[.val (.ref a), .val (.ref b), .val (.ref c'), .val (.ref d), .val (.int (Int32.ofNat i))] []))
    refine Go.iload C X d4_43 (n := 45) rfl rfl ?_
    refine Go.aloadN C X d4_45 (n := 46) rfl rfl rfl ?_
    refine Go.lengthL C X eT V_a (z := (Int32.ofNat xs.length)) (by rw [own_toI (by omega)]; simp) d4_46 (n := 47) rfl ?_
    refine Go.icmp_ge C X d4_47 (n1 := 71) (n2 := 50) (by decide) (by decide) rfl (fun hc47 => ?_) (fun hc47 => ?_)
    · exact absurd ((own_lt (by omega) (by omega)).mpr hi) hc47
    · refine Go.aloadN C X d4_50 (n := 51) rfl rfl rfl ?_
      refine Go.aloadN C X d4_51 (n := 52) rfl rfl rfl ?_
      refine Go.aloadN C X d4_52 (n := 53) rfl rfl rfl ?_
      refine Go.iload C X d4_53 (n := 55) rfl rfl ?_
      refine Go.ialoadL C X eT V_a (i := i) (own_toI (by omega)) (v := .int (Int32.ofNat w)) hx d4_55 (n := 56) rfl ?_
      refine Go.dup2 C X d4_56 (n := 57) rfl rfl rfl ?_
      refine Go.ialoadL C X eT V_d (i := w) (own_toI (by omega)) (v := .int (Int32.ofNat (nx.getD w 0))) (own_nat nx hc.1) d4_57 (n := 58) rfl ?_
      refine Go.dupX2 C X d4_58 (n := 59) rfl rfl rfl rfl ?_
      refine Go.iconst C X d4_59 (n := 60) rfl (v := (1 : Int32)) rfl ?_
      refine Go.iadd C X d4_60 (n := 61) rfl ?_
      refine Go.iastoreL C X eT V_d (i := w) (own_toI (by omega)) (by simpa using hc.1) d4_61 (n := 62) rfl ?_
      clear X eT
      intro T h X eT W V_new
      replace V_a := V_a.other W ne_a_d
      replace V_b := V_b.other W ne_b_d
      replace V_c' := V_c'.other W ne_c_d
      replace KP := KP.wr W (Or.inr s_d)
      clear V_d
      have V_d : Arl Z h d .int ((bump nx w).map nI) := by rw [own_sucI, own_setI] at V_new; exact V_new
      clear V_new
      replace N := Fr.snoc X N g_d
      refine Go.iload C X d4_62 (n := 64) rfl rfl ?_
      refine Go.iastoreL C X eT V_c' (i := (nx.getD w 0)) (own_toI (by omega)) (by simpa using hc.2) d4_64 (n := 65) rfl ?_
      clear X eT
      intro T h X eT W V_new
      replace V_a := V_a.other W ne_a_c
      replace V_b := V_b.other W ne_b_c
      replace V_d := V_d.other W (Ne.symm ne_c_d)
      replace KP := KP.wr W (Or.inr s_c)
      clear V_c'
      have V_c' : Arl Z h c' .int ((ls.set (nx.getD w 0) i).map nI) := by rw [own_setI] at V_new; exact V_new
      clear V_new
      replace N := Fr.snoc X N g_c
      refine Go.iinc C X d4_65 (n := 68) rfl (v := (1 : Int32)) rfl rfl (l' := #[.val (.ref a), .val (.ref b), .val (.ref c'), .val (.ref d), .val (.int ((Int32.ofNat i) + (1 : Int32)))]) rfl ?_
      refine Go.goto C X d4_68 (n := 43) (by decide) (by decide) ?_
      rw [own_sucI]
      refine ih (i + 1) _ _ C X eT V_a V_b V_c' V_d KP N ?_ ?_ ?_ ?_ hq
      · intro j hj
        have q := hxs (j + 1) (by simpa using hj)
        rw [Nat.add_assoc, Nat.add_comm 1 j]; simpa using q
      · omega
      · rw [own_bump_len]; exact hnx
      · rw [List.length_set]; exact hls
set_option maxRecDepth 65536 in
set_option maxHeartbeats 40000000 in
theorem rm4 (l : Launch) (Z : State) (a0 : Array Value) (hw : ∀ d ∈ tables_1, d.before a0 Z = true) (n0 : Nat) (h0 : Heap) (a b : Addr) (xs : List Nat) (y0 y1 y2 y3 : Nat) (res : List Nat) (hx6 : xs.length ≤ 6) (g_b : n0 ≤ b) (ne_a_b : a ≠ b) (O : Old Z n0 h0) (E_b : Exa Z h0 b "[I") (V_a : Arl Z h0 a .int (xs.map nI)) (V_b : Arl Z h0 b .int ([y0, y1, y2, y3].map nI)) (hq : place xs 0 [y0, y1 + y0, y2 + (y1 + y0), y3 + (y2 + (y1 + y0))] (List.replicate xs.length 0) = some res) :
    Ctr l Z (⟨"com/example/routes_to_timing/routestotiming/fabric/RoutingGraph", "listByWire", "([I[I)[I"⟩ : MethodName) prog_23_method_5_code 5 (some (.array .int)) ({ frames := 1, cells := 2, slots := 10, locals := 14 } : Room) #[(.ref a), (.ref b)] h0 (fun v h L => ∃ c', v = some (.ref c') ∧ Fr n0 L ∧ Keep h0 h [b] ∧ h0.size ≤ c' ∧ Arl Z h c' .int (res.map nI) ∧ Arl Z h b .int ([y0, y1 + y0, y2 + (y1 + y0), y3 + (y2 + (y1 + y0))].map nI)) := by
  refine Ctr.mk (plainFor_of_name pn_0) (ls := #[.val (.ref a), .val (.ref b), .unset, .unset, .unset]) (fun m => by first | (simp [entryFrame, mkF, argsToLocals, Value.category]; done) | rfl) ?_
  intro p e s m below meth c T C X eT hs0
  have N := Fr.nil n0
  show Go p e below _ (T.setTop (mkF m 0 #[.val (.ref a), .val (.ref b), .unset, .unset, .unset] []))
  have KP : Keep h0 h0 [b] := Keep.refl _ _
  refine Go.iconst C X d4_0 (n := 1) rfl (v := (0 : Int32)) rfl ?_
  refine Go.istoreN C X d4_1 (n := 2) rfl (l' := #[.val (.ref a), .val (.ref b), .val (.int (0 : Int32)), .unset, .unset]) rfl ?_
  refine Go.iloadN C X d4_2 (n := 3) rfl rfl ?_
  refine Go.iconst C X d4_3 (n := 4) rfl (v := (1 : Int32)) rfl ?_
  refine Go.iadd C X d4_4 (n := 5) rfl ?_
  show Go p e below _ (T.setTop (mkF m 5 #[.val (.ref a), .val (.ref b), .val (.int (0 : Int32)), .unset, .unset] [(.int (1 : Int32))]))
  refine Go.aloadN C X d4_5 (n := 6) rfl rfl rfl ?_
  refine Go.lengthL C X eT V_b (z := (4 : Int32)) rfl d4_6 (n := 7) rfl ?_
  refine Go.icmp_ge C X d4_7 (n1 := 27) (n2 := 10) (by decide) (by decide) rfl (fun hc7 => ?_) (fun hc7 => ?_)
  · exact absurd hc7 (by decide)
  · refine Go.aloadN C X d4_10 (n := 11) rfl rfl rfl ?_
    refine Go.iloadN C X d4_11 (n := 12) rfl rfl ?_
    refine Go.iconst C X d4_12 (n := 13) rfl (v := (1 : Int32)) rfl ?_
    refine Go.iadd C X d4_13 (n := 14) rfl ?_
    show Go p e below _ (T.setTop (mkF m 14 #[.val (.ref a), .val (.ref b), .val (.int (0 : Int32)), .unset, .unset] [(.int (1 : Int32)), (.ref b)]))
    refine Go.dup2 C X d4_14 (n := 15) rfl rfl rfl ?_
    refine Go.ialoadL C X eT V_b (i := 1) rfl (v := .int (Int32.ofNat y1)) rfl d4_15 (n := 16) rfl ?_
    refine Go.aloadN C X d4_16 (n := 17) rfl rfl rfl ?_
    refine Go.iloadN C X d4_17 (n := 18) rfl rfl ?_
    refine Go.ialoadL C X eT V_b (i := 0) rfl (v := .int (Int32.ofNat y0)) rfl d4_18 (n := 19) rfl ?_
    refine Go.iadd C X d4_19 (n := 20) rfl ?_
    refine Go.iastoreL C X eT V_b (i := 1) rfl (by simp) d4_20 (n := 21) rfl ?_
    clear X eT
    intro T h X eT W V_new
    replace V_a := V_a.other W ne_a_b
    replace E_b := E_b.wr W
    replace O := O.wr W g_b
    replace KP := KP.wr W (Or.inl (List.mem_of_getElem? (i := 0) rfl))
    clear V_b
    have V_b : Arl Z h b .int ([y0, (y1 + y0), y2, y3].map nI) := by rw [own_addI] at V_new; exact V_new
    clear V_new
    replace N := Fr.snoc X N g_b
    refine Go.iinc C X d4_21 (n := 24) rfl (v := (1 : Int32)) rfl rfl (l' := #[.val (.ref a), .val (.ref b), .val (.int ((0 : Int32) + (1 : Int32))), .unset, .unset]) rfl ?_
    show Go p e below _ (T.setTop (mkF m 24 #[.val (.ref a), .val (.ref b), .val (.int (1 : Int32)), .unset, .unset] []))
    refine Go.goto C X d4_24 (n := 2) (by decide) (by decide) ?_
    refine Go.iloadN C X d4_2 (n := 3) rfl rfl ?_
    refine Go.iconst C X d4_3 (n := 4) rfl (v := (1 : Int32)) rfl ?_
    refine Go.iadd C X d4_4 (n := 5) rfl ?_
    show Go p e below _ (T.setTop (mkF m 5 #[.val (.ref a), .val (.ref b), .val (.int (1 : Int32)), .unset, .unset] [(.int (2 : Int32))]))
    refine Go.aloadN C X d4_5 (n := 6) rfl rfl rfl ?_
    refine Go.lengthL C X eT V_b (z := (4 : Int32)) rfl d4_6 (n := 7) rfl ?_
    refine Go.icmp_ge C X d4_7 (n1 := 27) (n2 := 10) (by decide) (by decide) rfl (fun hc7 => ?_) (fun hc7 => ?_)
    · exact absurd hc7 (by decide)
    · refine Go.aloadN C X d4_10 (n := 11) rfl rfl rfl ?_
      refine Go.iloadN C X d4_11 (n := 12) rfl rfl ?_
      refine Go.iconst C X d4_12 (n := 13) rfl (v := (1 : Int32)) rfl ?_
      refine Go.iadd C X d4_13 (n := 14) rfl ?_
      show Go p e below _ (T.setTop (mkF m 14 #[.val (.ref a), .val (.ref b), .val (.int (1 : Int32)), .unset, .unset] [(.int (2 : Int32)), (.ref b)]))
      refine Go.dup2 C X d4_14 (n := 15) rfl rfl rfl ?_
      refine Go.ialoadL C X eT V_b (i := 2) rfl (v := .int (Int32.ofNat y2)) rfl d4_15 (n := 16) rfl ?_
      refine Go.aloadN C X d4_16 (n := 17) rfl rfl rfl ?_
      refine Go.iloadN C X d4_17 (n := 18) rfl rfl ?_
      refine Go.ialoadL C X eT V_b (i := 1) rfl (v := .int (Int32.ofNat (y1 + y0))) rfl d4_18 (n := 19) rfl ?_
      refine Go.iadd C X d4_19 (n := 20) rfl ?_
      refine Go.iastoreL C X eT V_b (i := 2) rfl (by simp) d4_20 (n := 21) rfl ?_
      clear X eT
      intro T h X eT W V_new
      replace V_a := V_a.other W ne_a_b
      replace E_b := E_b.wr W
      replace O := O.wr W g_b
      replace KP := KP.wr W (Or.inl (List.mem_of_getElem? (i := 0) rfl))
      clear V_b
      have V_b : Arl Z h b .int ([y0, (y1 + y0), (y2 + (y1 + y0)), y3].map nI) := by rw [own_addI] at V_new; exact V_new
      clear V_new
      replace N := Fr.snoc X N g_b
      refine Go.iinc C X d4_21 (n := 24) rfl (v := (1 : Int32)) rfl rfl (l' := #[.val (.ref a), .val (.ref b), .val (.int ((1 : Int32) + (1 : Int32))), .unset, .unset]) rfl ?_
      show Go p e below _ (T.setTop (mkF m 24 #[.val (.ref a), .val (.ref b), .val (.int (2 : Int32)), .unset, .unset] []))
      refine Go.goto C X d4_24 (n := 2) (by decide) (by decide) ?_
      refine Go.iloadN C X d4_2 (n := 3) rfl rfl ?_
      refine Go.iconst C X d4_3 (n := 4) rfl (v := (1 : Int32)) rfl ?_
      refine Go.iadd C X d4_4 (n := 5) rfl ?_
      show Go p e below _ (T.setTop (mkF m 5 #[.val (.ref a), .val (.ref b), .val (.int (2 : Int32)), .unset, .unset] [(.int (3 : Int32))]))
      refine Go.aloadN C X d4_5 (n := 6) rfl rfl rfl ?_
      refine Go.lengthL C X eT V_b (z := (4 : Int32)) rfl d4_6 (n := 7) rfl ?_
      refine Go.icmp_ge C X d4_7 (n1 := 27) (n2 := 10) (by decide) (by decide) rfl (fun hc7 => ?_) (fun hc7 => ?_)
      · exact absurd hc7 (by decide)
      · refine Go.aloadN C X d4_10 (n := 11) rfl rfl rfl ?_
        refine Go.iloadN C X d4_11 (n := 12) rfl rfl ?_
        refine Go.iconst C X d4_12 (n := 13) rfl (v := (1 : Int32)) rfl ?_
        refine Go.iadd C X d4_13 (n := 14) rfl ?_
        show Go p e below _ (T.setTop (mkF m 14 #[.val (.ref a), .val (.ref b), .val (.int (2 : Int32)), .unset, .unset] [(.int (3 : Int32)), (.ref b)]))
        refine Go.dup2 C X d4_14 (n := 15) rfl rfl rfl ?_
        refine Go.ialoadL C X eT V_b (i := 3) rfl (v := .int (Int32.ofNat y3)) rfl d4_15 (n := 16) rfl ?_
        refine Go.aloadN C X d4_16 (n := 17) rfl rfl rfl ?_
        refine Go.iloadN C X d4_17 (n := 18) rfl rfl ?_
        refine Go.ialoadL C X eT V_b (i := 2) rfl (v := .int (Int32.ofNat (y2 + (y1 + y0)))) rfl d4_18 (n := 19) rfl ?_
        refine Go.iadd C X d4_19 (n := 20) rfl ?_
        refine Go.iastoreL C X eT V_b (i := 3) rfl (by simp) d4_20 (n := 21) rfl ?_
        clear X eT
        intro T h X eT W V_new
        replace V_a := V_a.other W ne_a_b
        replace E_b := E_b.wr W
        replace O := O.wr W g_b
        replace KP := KP.wr W (Or.inl (List.mem_of_getElem? (i := 0) rfl))
        clear V_b
        have V_b : Arl Z h b .int ([y0, (y1 + y0), (y2 + (y1 + y0)), (y3 + (y2 + (y1 + y0)))].map nI) := by rw [own_addI] at V_new; exact V_new
        clear V_new
        replace N := Fr.snoc X N g_b
        refine Go.iinc C X d4_21 (n := 24) rfl (v := (1 : Int32)) rfl rfl (l' := #[.val (.ref a), .val (.ref b), .val (.int ((2 : Int32) + (1 : Int32))), .unset, .unset]) rfl ?_
        show Go p e below _ (T.setTop (mkF m 24 #[.val (.ref a), .val (.ref b), .val (.int (3 : Int32)), .unset, .unset] []))
        refine Go.goto C X d4_24 (n := 2) (by decide) (by decide) ?_
        refine Go.iloadN C X d4_2 (n := 3) rfl rfl ?_
        refine Go.iconst C X d4_3 (n := 4) rfl (v := (1 : Int32)) rfl ?_
        refine Go.iadd C X d4_4 (n := 5) rfl ?_
        show Go p e below _ (T.setTop (mkF m 5 #[.val (.ref a), .val (.ref b), .val (.int (3 : Int32)), .unset, .unset] [(.int (4 : Int32))]))
        refine Go.aloadN C X d4_5 (n := 6) rfl rfl rfl ?_
        refine Go.lengthL C X eT V_b (z := (4 : Int32)) rfl d4_6 (n := 7) rfl ?_
        refine Go.icmp_ge C X d4_7 (n1 := 27) (n2 := 10) (by decide) (by decide) rfl (fun hc7 => ?_) (fun hc7 => ?_)
        · refine Go.aloadN C X d4_27 (n := 28) rfl rfl rfl ?_
          refine Go.lengthL C X eT V_a (z := (Int32.ofNat xs.length)) (by rw [own_toI (by omega)]; simp) d4_28 (n := 29) rfl ?_
          refine Go.newL C X eT (wd hw 1 rfl) (i := xs.length) (own_toI (by omega)) (cap := 6) hx6 d4_29 (n := 31) rfl (by decide) (by decide) (by decide) ?_
          clear X eT
          intro T h c' z_c' X eT E V_c'
          have ne_a_c' : a ≠ c' := Nat.ne_of_lt (Nat.lt_of_lt_of_le V_a.lt (Nat.le_of_eq z_c'.symm))
          have ne_b_c' : b ≠ c' := Nat.ne_of_lt (Nat.lt_of_lt_of_le V_b.lt (Nat.le_of_eq z_c'.symm))
          have g_c' : n0 ≤ c' := by rw [z_c']; exact O.le
          have s_c' : h0.size ≤ c' := by rw [z_c']; exact KP.1
          replace V_a := V_a.ext E
          replace V_b := V_b.ext E
          replace E_b := E_b.ext E
          replace O := O.ext E
          replace KP := KP.ext E
          refine Go.astoreN C X d4_31 (n := 32) rfl rfl (l' := #[.val (.ref a), .val (.ref b), .val (.ref c'), .unset, .unset]) rfl ?_
          refine Go.aloadN C X d4_32 (n := 33) rfl rfl rfl ?_
          refine Go.cloneL C X eT (wd hw 32 rfl) (wd hw 33 rfl) (wd hw 37 rfl) (wd hw 35 rfl) (wd hw 36 rfl) (wd hw 38 rfl) V_b E_b (own_fitI _) d4_33 (n := 36) rfl rfl (by decide) (W := 0) rfl (by decide) (cap := 4) (by simp) (by decide) (by decide) ?_
          clear X eT
          intro T h d z_d X eT E V_d E_d
          have ne_a_d : a ≠ d := Nat.ne_of_lt (Nat.lt_of_lt_of_le V_a.lt (Nat.le_of_eq z_d.symm))
          have ne_b_d : b ≠ d := Nat.ne_of_lt (Nat.lt_of_lt_of_le V_b.lt (Nat.le_of_eq z_d.symm))
          have ne_c'_d : c' ≠ d := Nat.ne_of_lt (Nat.lt_of_lt_of_le V_c'.lt (Nat.le_of_eq z_d.symm))
          have g_d : n0 ≤ d := by rw [z_d]; exact O.le
          have s_d : h0.size ≤ d := by rw [z_d]; exact KP.1
          replace V_a := V_a.ext E
          replace V_b := V_b.ext E
          replace E_b := E_b.ext E
          replace O := O.ext E
          replace KP := KP.ext E
          replace V_c' := V_c'.ext E
          refine Go.castY C X eT (wd hw 39 rfl) (Ins.self E_d) d4_36 (n := 39) rfl ?_
          clear X eT
          intro T X eT
          refine Go.astoreN C X d4_39 (n := 40) rfl rfl (l' := #[.val (.ref a), .val (.ref b), .val (.ref c'), .val (.ref d), .unset]) rfl ?_
          refine Go.iconst C X d4_40 (n := 41) rfl (v := (0 : Int32)) rfl ?_
          refine Go.istore C X d4_41 (n := 43) rfl (l' := #[.val (.ref a), .val (.ref b), .val (.ref c'), .val (.ref d), .val (.int (0 : Int32))]) rfl ?_
          refine Go.weaken ?wk (loop4 (by decide) (by decide) hx6 g_c' g_d s_c' s_d ne_a_c' ne_a_d ne_b_c' ne_b_d ne_c'_d xs 0 _ (List.replicate xs.length 0) C X eT V_a V_b (by rw [List.map_replicate]; exact V_c') V_d KP N (fun j hj => by simp) (by simp) rfl (by simp) hq)
          exact fun v h L q => ⟨c', q⟩
        · exact absurd hc7 (by decide)
set_option maxRecDepth 65536 in
set_option maxHeartbeats 40000000 in
theorem inner1 {p : Program} {l : Launch} {e : Env} {R : Room} {s : State} {m : MethodId} {args : Array Value} {below : List Frame} {meth : Method} {c : Code} {Z : State} {a0 : Array Value} {K : Outcome → State → Prop} {n0 : Nat} {a f gs gw cg : Addr} {gI : Int32} {gn un : Nat} {vsg : List Value} {cells slots : Nat} (g_cg : n0 ≤ cg) (ne_a_cg : a ≠ cg) (ne_gs_cg : gs ≠ cg) (hun : un ≤ 6) (hg1 : (gI + (1 : Int32)).toInt = ((gn + 1 : Nat) : Int)) (hv : vsg[gn + 1]? = some (.int (Int32.ofNat un))) (hw : ∀ d ∈ tables_1, d.before a0 Z = true) (k : Nat) : ∀ (cn : Nat) {T : State} {locs : List Loc} {h : Heap} {vs : List Value}, cn + k = un →
    Cx p s m meth c Z "com/example/routes_to_timing/routestotiming/fabric/RoutingGraph" prog_23_method_3_code 7 none "<init>" → Stand p l e R s m args below meth c T locs cells slots → T.heap = h → Fld Z h a "com/example/routes_to_timing/routestotiming/fabric/RoutingGraph" "connectionGroup" "[I" (.ref cg) → Arl Z h gs .int vsg → Arl Z h cg .int vs → vs.length = 6 → Fr n0 locs →
    (∀ T' h' locs' vs', Stand p l e R s m args below meth c T' locs' cells slots → T'.heap = h' → Keep h h' [cg] → Fr n0 locs' → Arl Z h' cg .int vs' → vs'.length = 6 → Go p e below K (T'.setTop (mkF m 188 #[.val (.ref a), .val (.int (3 : Int32)), .val (.ref f), .val (.ref gs), .val (.ref gw), .val (.int gI), .val (.int (Int32.ofNat un))] []))) →
    Go p e below K (T.setTop (mkF m 162 #[.val (.ref a), .val (.int (3 : Int32)), .val (.ref f), .val (.ref gs), .val (.ref gw), .val (.int gI), .val (.int (Int32.ofNat cn))] [])) := by
  induction k with
  | zero =>
    intro cn T locs h vs hk C X eT F_cg V_gs V_cg hl N kk
    show Go p e below _ (T.setTop (mkF m 162 #[.val (.ref a), .val (.int (3 : Int32)), .val (.ref f), .val (.ref gs), .val (.ref gw), .val (.int gI), .val (.int (Int32.ofNat cn))] []))
    refine Go.iload C X d1_162 (n := 164) rfl rfl ?_
    refine Go.aloadN C X d1_164 (n := 165) rfl rfl rfl ?_
    refine Go.iload C X d1_165 (n := 167) rfl rfl ?_
    refine Go.iconst C X d1_167 (n := 168) rfl (v := (1 : Int32)) rfl ?_
    refine Go.iadd C X d1_168 (n := 169) rfl ?_
    refine Go.ialoadL C X eT V_gs (i := (gn + 1)) hg1 (v := .int (Int32.ofNat un)) hv d1_169 (n := 170) rfl ?_
    refine Go.icmp_ge C X d1_170 (n1 := 188) (n2 := 173) (by decide) (by decide) rfl (fun hc170 => ?_) (fun hc170 => ?_)
    · obtain rfl : cn = un := by omega
      exact kk _ _ _ _ X eT (Keep.refl _ _) N V_cg hl
    · exact absurd ((own_lt (by omega) (by omega)).mp hc170) (by omega)
  | succ k ih =>
    intro cn T locs h vs hk C X eT F_cg V_gs V_cg hl N kk
    show Go p e below _ (T.setTop (mkF m 162 #[.val (.ref a), .val (.int (3 : Int32)), .val (.ref f), .val (.ref gs), .val (.ref gw), .val (.int gI), .val (.int (Int32.ofNat cn))] []))
    refine Go.iload C X d1_162 (n := 164) rfl rfl ?_
    refine Go.aloadN C X d1_164 (n := 165) rfl rfl rfl ?_
    refine Go.iload C X d1_165 (n := 167) rfl rfl ?_
    refine Go.iconst C X d1_167 (n := 168) rfl (v := (1 : Int32)) rfl ?_
    refine Go.iadd C X d1_168 (n := 169) rfl ?_
    refine Go.ialoadL C X eT V_gs (i := (gn + 1)) hg1 (v := .int (Int32.ofNat un)) hv d1_169 (n := 170) rfl ?_
    refine Go.icmp_ge C X d1_170 (n1 := 188) (n2 := 173) (by decide) (by decide) rfl (fun hc170 => ?_) (fun hc170 => ?_)
    · exact absurd ((own_lt (by omega) (by omega)).mpr (by omega)) hc170
    · refine Go.aloadN C X d1_173 (n := 174) rfl rfl rfl ?_
      refine Go.getF C X eT (wd hw 19 rfl) Via.refl F_cg d1_174 (n := 177) rfl ?_
      clear X eT
      intro T X eT
      refine Go.iload C X d1_177 (n := 179) rfl rfl ?_
      refine Go.iload C X d1_179 (n := 181) rfl rfl ?_
      refine Go.iastoreL C X eT V_cg (i := cn) (own_toI (by omega)) (by rw [hl]; omega) d1_181 (n := 182) rfl ?_
      clear X eT
      intro T h X eT W V_new
      replace F_cg := F_cg.other W (Or.inl ne_a_cg)
      replace V_gs := V_gs.other W ne_gs_cg
      clear V_cg
      have V_cg := V_new
      have K1 := Keep.of_wr W
      clear V_new
      replace N := Fr.snoc X N g_cg
      refine Go.iinc C X d1_182 (n := 185) rfl (v := (1 : Int32)) rfl rfl (l' := #[.val (.ref a), .val (.int (3 : Int32)), .val (.ref f), .val (.ref gs), .val (.ref gw), .val (.int gI), .val (.int ((Int32.ofNat cn) + (1 : Int32)))]) rfl ?_
      refine Go.goto C X d1_185 (n := 162) (by decide) (by decide) ?_
      rw [own_sucI]
      refine ih (cn + 1) (by omega) C X eT F_cg V_gs V_cg (by simpa using hl) N ?_
      intro T' h' locs' vs' X' e' K2 N' V' l'
      exact kk _ _ _ _ X' e' (K1.trans K2 (fun x hx => Or.inl hx)) N' V' l'
theorem pd_0 : parseMethodDescriptor "(II)V" = some ⟨[.int, .int], none⟩ := by decide +kernel
theorem pd_1 : parseMethodDescriptor "([I[I)[I" = some ⟨[(.array .int), (.array .int)], some (.array .int)⟩ := by decide +kernel
set_option maxRecDepth 65536 in
set_option maxHeartbeats 40000000 in
theorem rm1 (l : Launch) (Z : State) (a0 : Array Value) (hw : ∀ d ∈ tables_1, d.before a0 Z = true) (n0 : Nat) (h0 : Heap) (a f gs gw : Addr) (k0 k1 k2 n1 n2 y0 y1 y2 y3 : Nat) (res : List Nat) (hk0 : k0 < 3) (hk1 : k1 < 3) (hk2 : k2 < 3) (hn0 : 0 < n1) (hn1 : n1 < n2) (hn2 : n2 < 6) (ne_f_a : f ≠ a) (ne_gs_a : gs ≠ a) (ne_gw_a : gw ≠ a) (g_a : n0 ≤ a) (O : Old Z n0 h0) (E_a : Exa Z h0 a "com/example/routes_to_timing/routestotiming/fabric/RoutingGraph") (F_a_wireCount : Fld Z h0 a "com/example/routes_to_timing/routestotiming/fabric/RoutingGraph" "wireCount" "I" (.int (0 : Int32))) (F_a_from : Fld Z h0 a "com/example/routes_to_timing/routestotiming/fabric/RoutingGraph" "from" "[I" .null) (F_a_groupStart : Fld Z h0 a "com/example/routes_to_timing/routestotiming/fabric/RoutingGraph" "groupStart" "[I" .null) (F_a_groupWire : Fld Z h0 a "com/example/routes_to_timing/routestotiming/fabric/RoutingGraph" "groupWire" "[I" .null) (F_a_connectionGroup : Fld Z h0 a "com/example/routes_to_timing/routestotiming/fabric/RoutingGraph" "connectionGroup" "[I" .null) (F_a_incomingStart : Fld Z h0 a "com/example/routes_to_timing/routestotiming/fabric/RoutingGraph" "incomingStart" "[I" .null) (F_a_outgoingStart : Fld Z h0 a "com/example/routes_to_timing/routestotiming/fabric/RoutingGraph" "outgoingStart" "[I" .null) (F_a_outgoing : Fld Z h0 a "com/example/routes_to_timing/routestotiming/fabric/RoutingGraph" "outgoing" "[I" .null) (F_a_incoming : Fld Z h0 a "com/example/routes_to_timing/routestotiming/fabric/RoutingGraph" "incoming" "[I" .null) (V_f : Arl Z h0 f .int ([0, 0, 0, 0, 0, 0].map nI)) (V_gs : Arl Z h0 gs .int ([0, n1, n2, 6].map nI)) (V_gw : Arl Z h0 gw .int ([k0, k1, k2].map nI)) (hy : incS k0 k1 k2 = [y0, y1, y2, y3]) (hres : place [k0, k1, k2] 0 [y0, y1 + y0, y2 + (y1 + y0), y3 + (y2 + (y1 + y0))] [0, 0, 0] = some res) :
    Ctr l Z (⟨"com/example/routes_to_timing/routestotiming/fabric/RoutingGraph", "<init>", "(I[I[I[I)V"⟩ : MethodName) prog_23_method_3_code 7 none ({ frames := 2, cells := 7, slots := 34, locals := 31 } : Room) #[(.ref a), (.int (3 : Int32)), (.ref f), (.ref gs), (.ref gw)] h0 (fun v h L => v = none ∧ Fr n0 L ∧ Keep h0 h [a] ∧ Exa Z h a "com/example/routes_to_timing/routestotiming/fabric/RoutingGraph" ∧ ∃ is inc : Addr, Fld Z h a "com/example/routes_to_timing/routestotiming/fabric/RoutingGraph" "incomingStart" "[I" (.ref is) ∧ Fld Z h a "com/example/routes_to_timing/routestotiming/fabric/RoutingGraph" "groupStart" "[I" (.ref gs) ∧ Fld Z h a "com/example/routes_to_timing/routestotiming/fabric/RoutingGraph" "incoming" "[I" (.ref inc) ∧ Arl Z h is .int ([y0, y1 + y0, y2 + (y1 + y0), y3 + (y2 + (y1 + y0))].map nI) ∧ Arl Z h inc .int (res.map nI)) := by
  refine Ctr.mk (plainFor_of_name pn_0) (ls := #[.val (.ref a), .val (.int (3 : Int32)), .val (.ref f), .val (.ref gs), .val (.ref gw), .unset, .unset]) (fun m => by first | (simp [entryFrame, mkF, argsToLocals, Value.category]; done) | rfl) ?_
  intro p e s m below meth c T C X eT hs0
  have N := Fr.nil n0
  show Go p e below _ (T.setTop (mkF m 0 #[.val (.ref a), .val (.int (3 : Int32)), .val (.ref f), .val (.ref gs), .val (.ref gw), .unset, .unset] []))
  have KP : Keep h0 h0 [a] := Keep.refl _ _
  refine Go.aloadN C X d1_0 (n := 1) rfl rfl rfl ?_
  refine Go.initO C X eT (W := 0) (wd hw 8 rfl) (wd hw 9 rfl) (wd hw 10 rfl) d1_1 (n := 4) rfl rfl (by decide) rfl (by decide) ?_
  clear X eT
  intro T X eT
  refine Go.iloadN C X d1_4 (n := 5) rfl rfl ?_
  refine Go.if0_ge C X d1_5 (n1 := 22) (n2 := 8) (by decide) (by decide) rfl (fun hc5 => ?_) (fun hc5 => ?_)
  · refine Go.aloadN C X d1_22 (n := 23) rfl rfl rfl ?_
    refine Go.lengthL C X eT V_gs (z := (4 : Int32)) rfl d1_23 (n := 24) rfl ?_
    refine Go.aload C X d1_24 (n := 26) rfl rfl rfl ?_
    refine Go.lengthL C X eT V_gw (z := (3 : Int32)) rfl d1_26 (n := 27) rfl ?_
    refine Go.iconst C X d1_27 (n := 28) rfl (v := (1 : Int32)) rfl ?_
    refine Go.iadd C X d1_28 (n := 29) rfl ?_
    show Go p e below _ (T.setTop (mkF m 29 #[.val (.ref a), .val (.int (3 : Int32)), .val (.ref f), .val (.ref gs), .val (.ref gw), .unset, .unset] [(.int (4 : Int32)), (.int (4 : Int32))]))
    refine Go.icmp_ne C X d1_29 (n1 := 48) (n2 := 32) (by decide) (by decide) rfl (fun hc29 => ?_) (fun hc29 => ?_)
    · exact absurd hc29 (by decide)
    · refine Go.aloadN C X d1_32 (n := 33) rfl rfl rfl ?_
      refine Go.iconst C X d1_33 (n := 34) rfl (v := (0 : Int32)) rfl ?_
      refine Go.ialoadL C X eT V_gs (i := 0) rfl (v := .int (0 : Int32)) rfl d1_34 (n := 35) rfl ?_
      refine Go.if0_ne C X d1_35 (n1 := 48) (n2 := 38) (by decide) (by decide) rfl (fun hc35 => ?_) (fun hc35 => ?_)
      · exact absurd hc35 (by decide)
      · refine Go.aloadN C X d1_38 (n := 39) rfl rfl rfl ?_
        refine Go.aload C X d1_39 (n := 41) rfl rfl rfl ?_
        refine Go.lengthL C X eT V_gw (z := (3 : Int32)) rfl d1_41 (n := 42) rfl ?_
        refine Go.ialoadL C X eT V_gs (i := 3) rfl (v := .int (6 : Int32)) rfl d1_42 (n := 43) rfl ?_
        refine Go.aloadN C X d1_43 (n := 44) rfl rfl rfl ?_
        refine Go.lengthL C X eT V_f (z := (6 : Int32)) rfl d1_44 (n := 45) rfl ?_
        refine Go.icmp_eq C X d1_45 (n1 := 66) (n2 := 48) (by decide) (by decide) rfl (fun hc45 => ?_) (fun hc45 => ?_)
        · refine Go.aloadN C X d1_66 (n := 67) rfl rfl rfl ?_
          refine Go.iloadN C X d1_67 (n := 68) rfl rfl ?_
          refine Go.putF C X eT (wd hw 11 rfl) Via.refl F_a_wireCount E_a (Or.inr ⟨(wd hw 12 rfl), rfl, rfl⟩) (wd hw 3 rfl) (ty := .int) (by decide) rfl rfl d1_68 (n := 71) rfl ?_
          clear X eT
          intro T h X eT W
          replace E_a := E_a.wr W
          replace O := O.wr W g_a
          replace KP := KP.wr W (Or.inl (List.mem_of_getElem? (i := 0) rfl))
          replace F_a_wireCount := F_a_wireCount.same W
          replace F_a_from := F_a_from.other W (Or.inr (slot_ne (Or.inr (wd hw 14 rfl)) (Or.inr (wd hw 12 rfl)) (by decide) (t := (.array .int)) (t' := .int) (by decide) (by decide)))
          replace F_a_groupStart := F_a_groupStart.other W (Or.inr (slot_ne (Or.inr (wd hw 16 rfl)) (Or.inr (wd hw 12 rfl)) (by decide) (t := (.array .int)) (t' := .int) (by decide) (by decide)))
          replace F_a_groupWire := F_a_groupWire.other W (Or.inr (slot_ne (Or.inr (wd hw 18 rfl)) (Or.inr (wd hw 12 rfl)) (by decide) (t := (.array .int)) (t' := .int) (by decide) (by decide)))
          replace F_a_connectionGroup := F_a_connectionGroup.other W (Or.inr (slot_ne (Or.inr (wd hw 20 rfl)) (Or.inr (wd hw 12 rfl)) (by decide) (t := (.array .int)) (t' := .int) (by decide) (by decide)))
          replace F_a_incomingStart := F_a_incomingStart.other W (Or.inr (slot_ne (Or.inr (wd hw 22 rfl)) (Or.inr (wd hw 12 rfl)) (by decide) (t := (.array .int)) (t' := .int) (by decide) (by decide)))
          replace F_a_outgoingStart := F_a_outgoingStart.other W (Or.inr (slot_ne (Or.inr (wd hw 28 rfl)) (Or.inr (wd hw 12 rfl)) (by decide) (t := (.array .int)) (t' := .int) (by decide) (by decide)))
          replace F_a_outgoing := F_a_outgoing.other W (Or.inr (slot_ne (Or.inr (wd hw 42 rfl)) (Or.inr (wd hw 12 rfl)) (by decide) (t := (.array .int)) (t' := .int) (by decide) (by decide)))
          replace F_a_incoming := F_a_incoming.other W (Or.inr (slot_ne (Or.inr (wd hw 44 rfl)) (Or.inr (wd hw 12 rfl)) (by decide) (t := (.array .int)) (t' := .int) (by decide) (by decide)))
          replace V_f := V_f.other W ne_f_a
          replace V_gs := V_gs.other W ne_gs_a
          replace V_gw := V_gw.other W ne_gw_a
          replace N := Fr.snoc X N g_a
          refine Go.aloadN C X d1_71 (n := 72) rfl rfl rfl ?_
          refine Go.aloadN C X d1_72 (n := 73) rfl rfl rfl ?_
          refine Go.putF C X eT (wd hw 13 rfl) Via.refl F_a_from E_a (Or.inr ⟨(wd hw 14 rfl), rfl, rfl⟩) (wd hw 3 rfl) (ty := (.array .int)) (by decide) rfl rfl d1_73 (n := 76) rfl ?_
          clear X eT
          intro T h X eT W
          replace E_a := E_a.wr W
          replace O := O.wr W g_a
          replace KP := KP.wr W (Or.inl (List.mem_of_getElem? (i := 0) rfl))
          replace F_a_wireCount := F_a_wireCount.other W (Or.inr (slot_ne (Or.inr (wd hw 12 rfl)) (Or.inr (wd hw 14 rfl)) (by decide) (t := .int) (t' := (.array .int)) (by decide) (by decide)))
          replace F_a_from := F_a_from.same W
          replace F_a_groupStart := F_a_groupStart.other W (Or.inr (slot_ne (Or.inr (wd hw 16 rfl)) (Or.inr (wd hw 14 rfl)) (by decide) (t := (.array .int)) (t' := (.array .int)) (by decide) (by decide)))
          replace F_a_groupWire := F_a_groupWire.other W (Or.inr (slot_ne (Or.inr (wd hw 18 rfl)) (Or.inr (wd hw 14 rfl)) (by decide) (t := (.array .int)) (t' := (.array .int)) (by decide) (by decide)))
          replace F_a_connectionGroup := F_a_connectionGroup.other W (Or.inr (slot_ne (Or.inr (wd hw 20 rfl)) (Or.inr (wd hw 14 rfl)) (by decide) (t := (.array .int)) (t' := (.array .int)) (by decide) (by decide)))
          replace F_a_incomingStart := F_a_incomingStart.other W (Or.inr (slot_ne (Or.inr (wd hw 22 rfl)) (Or.inr (wd hw 14 rfl)) (by decide) (t := (.array .int)) (t' := (.array .int)) (by decide) (by decide)))
          replace F_a_outgoingStart := F_a_outgoingStart.other W (Or.inr (slot_ne (Or.inr (wd hw 28 rfl)) (Or.inr (wd hw 14 rfl)) (by decide) (t := (.array .int)) (t' := (.array .int)) (by decide) (by decide)))
          replace F_a_outgoing := F_a_outgoing.other W (Or.inr (slot_ne (Or.inr (wd hw 42 rfl)) (Or.inr (wd hw 14 rfl)) (by decide) (t := (.array .int)) (t' := (.array .int)) (by decide) (by decide)))
          replace F_a_incoming := F_a_incoming.other W (Or.inr (slot_ne (Or.inr (wd hw 44 rfl)) (Or.inr (wd hw 14 rfl)) (by decide) (t := (.array .int)) (t' := (.array .int)) (by decide) (by decide)))
          replace V_f := V_f.other W ne_f_a
          replace V_gs := V_gs.other W ne_gs_a
          replace V_gw := V_gw.other W ne_gw_a
          replace N := Fr.snoc X N g_a
          refine Go.aloadN C X d1_76 (n := 77) rfl rfl rfl ?_
          refine Go.aloadN C X d1_77 (n := 78) rfl rfl rfl ?_
          refine Go.putF C X eT (wd hw 15 rfl) Via.refl F_a_groupStart E_a (Or.inr ⟨(wd hw 16 rfl), rfl, rfl⟩) (wd hw 3 rfl) (ty := (.array .int)) (by decide) rfl rfl d1_78 (n := 81) rfl ?_
          clear X eT
          intro T h X eT W
          replace E_a := E_a.wr W
          replace O := O.wr W g_a
          replace KP := KP.wr W (Or.inl (List.mem_of_getElem? (i := 0) rfl))
          replace F_a_wireCount := F_a_wireCount.other W (Or.inr (slot_ne (Or.inr (wd hw 12 rfl)) (Or.inr (wd hw 16 rfl)) (by decide) (t := .int) (t' := (.array .int)) (by decide) (by decide)))
          replace F_a_from := F_a_from.other W (Or.inr (slot_ne (Or.inr (wd hw 14 rfl)) (Or.inr (wd hw 16 rfl)) (by decide) (t := (.array .int)) (t' := (.array .int)) (by decide) (by decide)))
          replace F_a_groupStart := F_a_groupStart.same W
          replace F_a_groupWire := F_a_groupWire.other W (Or.inr (slot_ne (Or.inr (wd hw 18 rfl)) (Or.inr (wd hw 16 rfl)) (by decide) (t := (.array .int)) (t' := (.array .int)) (by decide) (by decide)))
          replace F_a_connectionGroup := F_a_connectionGroup.other W (Or.inr (slot_ne (Or.inr (wd hw 20 rfl)) (Or.inr (wd hw 16 rfl)) (by decide) (t := (.array .int)) (t' := (.array .int)) (by decide) (by decide)))
          replace F_a_incomingStart := F_a_incomingStart.other W (Or.inr (slot_ne (Or.inr (wd hw 22 rfl)) (Or.inr (wd hw 16 rfl)) (by decide) (t := (.array .int)) (t' := (.array .int)) (by decide) (by decide)))
          replace F_a_outgoingStart := F_a_outgoingStart.other W (Or.inr (slot_ne (Or.inr (wd hw 28 rfl)) (Or.inr (wd hw 16 rfl)) (by decide) (t := (.array .int)) (t' := (.array .int)) (by decide) (by decide)))
          replace F_a_outgoing := F_a_outgoing.other W (Or.inr (slot_ne (Or.inr (wd hw 42 rfl)) (Or.inr (wd hw 16 rfl)) (by decide) (t := (.array .int)) (t' := (.array .int)) (by decide) (by decide)))
          replace F_a_incoming := F_a_incoming.other W (Or.inr (slot_ne (Or.inr (wd hw 44 rfl)) (Or.inr (wd hw 16 rfl)) (by decide) (t := (.array .int)) (t' := (.array .int)) (by decide) (by decide)))
          replace V_f := V_f.other W ne_f_a
          replace V_gs := V_gs.other W ne_gs_a
          replace V_gw := V_gw.other W ne_gw_a
          replace N := Fr.snoc X N g_a
          refine Go.aloadN C X d1_81 (n := 82) rfl rfl rfl ?_
          refine Go.aload C X d1_82 (n := 84) rfl rfl rfl ?_
          refine Go.putF C X eT (wd hw 17 rfl) Via.refl F_a_groupWire E_a (Or.inr ⟨(wd hw 18 rfl), rfl, rfl⟩) (wd hw 3 rfl) (ty := (.array .int)) (by decide) rfl rfl d1_84 (n := 87) rfl ?_
          clear X eT
          intro T h X eT W
          replace E_a := E_a.wr W
          replace O := O.wr W g_a
          replace KP := KP.wr W (Or.inl (List.mem_of_getElem? (i := 0) rfl))
          replace F_a_wireCount := F_a_wireCount.other W (Or.inr (slot_ne (Or.inr (wd hw 12 rfl)) (Or.inr (wd hw 18 rfl)) (by decide) (t := .int) (t' := (.array .int)) (by decide) (by decide)))
          replace F_a_from := F_a_from.other W (Or.inr (slot_ne (Or.inr (wd hw 14 rfl)) (Or.inr (wd hw 18 rfl)) (by decide) (t := (.array .int)) (t' := (.array .int)) (by decide) (by decide)))
          replace F_a_groupStart := F_a_groupStart.other W (Or.inr (slot_ne (Or.inr (wd hw 16 rfl)) (Or.inr (wd hw 18 rfl)) (by decide) (t := (.array .int)) (t' := (.array .int)) (by decide) (by decide)))
          replace F_a_groupWire := F_a_groupWire.same W
          replace F_a_connectionGroup := F_a_connectionGroup.other W (Or.inr (slot_ne (Or.inr (wd hw 20 rfl)) (Or.inr (wd hw 18 rfl)) (by decide) (t := (.array .int)) (t' := (.array .int)) (by decide) (by decide)))
          replace F_a_incomingStart := F_a_incomingStart.other W (Or.inr (slot_ne (Or.inr (wd hw 22 rfl)) (Or.inr (wd hw 18 rfl)) (by decide) (t := (.array .int)) (t' := (.array .int)) (by decide) (by decide)))
          replace F_a_outgoingStart := F_a_outgoingStart.other W (Or.inr (slot_ne (Or.inr (wd hw 28 rfl)) (Or.inr (wd hw 18 rfl)) (by decide) (t := (.array .int)) (t' := (.array .int)) (by decide) (by decide)))
          replace F_a_outgoing := F_a_outgoing.other W (Or.inr (slot_ne (Or.inr (wd hw 42 rfl)) (Or.inr (wd hw 18 rfl)) (by decide) (t := (.array .int)) (t' := (.array .int)) (by decide) (by decide)))
          replace F_a_incoming := F_a_incoming.other W (Or.inr (slot_ne (Or.inr (wd hw 44 rfl)) (Or.inr (wd hw 18 rfl)) (by decide) (t := (.array .int)) (t' := (.array .int)) (by decide) (by decide)))
          replace V_f := V_f.other W ne_f_a
          replace V_gs := V_gs.other W ne_gs_a
          replace V_gw := V_gw.other W ne_gw_a
          replace N := Fr.snoc X N g_a
          refine Go.aloadN C X d1_87 (n := 88) rfl rfl rfl ?_
          refine Go.aloadN C X d1_88 (n := 89) rfl rfl rfl ?_
          refine Go.lengthL C X eT V_f (z := (6 : Int32)) rfl d1_89 (n := 90) rfl ?_
          refine Go.newLE C X eT (wd hw 1 rfl) (i := 6) rfl (cap := 6) (by decide) d1_90 (n := 92) rfl (by decide) (by decide) (by decide) (ad := "[I") (by decide) ?_
          clear X eT
          intro T h cg z_cg X eT E V_cg E_cg
          have ne_a_cg : a ≠ cg := Nat.ne_of_lt (Nat.lt_of_lt_of_le E_a.lt (Nat.le_of_eq z_cg.symm))
          have ne_f_cg : f ≠ cg := Nat.ne_of_lt (Nat.lt_of_lt_of_le V_f.lt (Nat.le_of_eq z_cg.symm))
          have ne_gs_cg : gs ≠ cg := Nat.ne_of_lt (Nat.lt_of_lt_of_le V_gs.lt (Nat.le_of_eq z_cg.symm))
          have ne_gw_cg : gw ≠ cg := Nat.ne_of_lt (Nat.lt_of_lt_of_le V_gw.lt (Nat.le_of_eq z_cg.symm))
          have g_cg : n0 ≤ cg := by rw [z_cg]; exact O.le
          have s_cg : h0.size ≤ cg := by rw [z_cg]; exact KP.1
          replace E_a := E_a.ext E
          replace O := O.ext E
          replace KP := KP.ext E
          replace F_a_wireCount := F_a_wireCount.ext E
          replace F_a_from := F_a_from.ext E
          replace F_a_groupStart := F_a_groupStart.ext E
          replace F_a_groupWire := F_a_groupWire.ext E
          replace F_a_connectionGroup := F_a_connectionGroup.ext E
          replace F_a_incomingStart := F_a_incomingStart.ext E
          replace F_a_outgoingStart := F_a_outgoingStart.ext E
          replace F_a_outgoing := F_a_outgoing.ext E
          replace F_a_incoming := F_a_incoming.ext E
          replace V_f := V_f.ext E
          replace V_gs := V_gs.ext E
          replace V_gw := V_gw.ext E
          replace V_cg : Arl Z h cg .int ([0, 0, 0, 0, 0, 0].map nI) := V_cg
          refine Go.putF C X eT (wd hw 19 rfl) Via.refl F_a_connectionGroup E_a (Or.inr ⟨(wd hw 20 rfl), rfl, rfl⟩) (wd hw 3 rfl) (ty := (.array .int)) (by decide) rfl rfl d1_92 (n := 95) rfl ?_
          clear X eT
          intro T h X eT W
          replace E_a := E_a.wr W
          replace O := O.wr W g_a
          replace KP := KP.wr W (Or.inl (List.mem_of_getElem? (i := 0) rfl))
          replace F_a_wireCount := F_a_wireCount.other W (Or.inr (slot_ne (Or.inr (wd hw 12 rfl)) (Or.inr (wd hw 20 rfl)) (by decide) (t := .int) (t' := (.array .int)) (by decide) (by decide)))
          replace F_a_from := F_a_from.other W (Or.inr (slot_ne (Or.inr (wd hw 14 rfl)) (Or.inr (wd hw 20 rfl)) (by decide) (t := (.array .int)) (t' := (.array .int)) (by decide) (by decide)))
          replace F_a_groupStart := F_a_groupStart.other W (Or.inr (slot_ne (Or.inr (wd hw 16 rfl)) (Or.inr (wd hw 20 rfl)) (by decide) (t := (.array .int)) (t' := (.array .int)) (by decide) (by decide)))
          replace F_a_groupWire := F_a_groupWire.other W (Or.inr (slot_ne (Or.inr (wd hw 18 rfl)) (Or.inr (wd hw 20 rfl)) (by decide) (t := (.array .int)) (t' := (.array .int)) (by decide) (by decide)))
          replace F_a_connectionGroup := F_a_connectionGroup.same W
          replace F_a_incomingStart := F_a_incomingStart.other W (Or.inr (slot_ne (Or.inr (wd hw 22 rfl)) (Or.inr (wd hw 20 rfl)) (by decide) (t := (.array .int)) (t' := (.array .int)) (by decide) (by decide)))
          replace F_a_outgoingStart := F_a_outgoingStart.other W (Or.inr (slot_ne (Or.inr (wd hw 28 rfl)) (Or.inr (wd hw 20 rfl)) (by decide) (t := (.array .int)) (t' := (.array .int)) (by decide) (by decide)))
          replace F_a_outgoing := F_a_outgoing.other W (Or.inr (slot_ne (Or.inr (wd hw 42 rfl)) (Or.inr (wd hw 20 rfl)) (by decide) (t := (.array .int)) (t' := (.array .int)) (by decide) (by decide)))
          replace F_a_incoming := F_a_incoming.other W (Or.inr (slot_ne (Or.inr (wd hw 44 rfl)) (Or.inr (wd hw 20 rfl)) (by decide) (t := (.array .int)) (t' := (.array .int)) (by decide) (by decide)))
          replace V_f := V_f.other W ne_f_a
          replace V_gs := V_gs.other W ne_gs_a
          replace V_gw := V_gw.other W ne_gw_a
          replace V_cg := V_cg.other W (Ne.symm ne_a_cg)
          replace E_cg := E_cg.wr W
          replace N := Fr.snoc X N g_a
          refine Go.aloadN C X d1_95 (n := 96) rfl rfl rfl ?_
          refine Go.iloadN C X d1_96 (n := 97) rfl rfl ?_
          refine Go.iconst C X d1_97 (n := 98) rfl (v := (1 : Int32)) rfl ?_
          refine Go.iadd C X d1_98 (n := 99) rfl ?_
          show Go p e below _ (T.setTop (mkF m 99 #[.val (.ref a), .val (.int (3 : Int32)), .val (.ref f), .val (.ref gs), .val (.ref gw), .unset, .unset] [(.int (4 : Int32)), (.ref a)]))
          refine Go.newLE C X eT (wd hw 1 rfl) (i := 4) rfl (cap := 4) (by decide) d1_99 (n := 101) rfl (by decide) (by decide) (by decide) (ad := "[I") (by decide) ?_
          clear X eT
          intro T h is z_is X eT E V_is E_is
          have ne_a_is : a ≠ is := Nat.ne_of_lt (Nat.lt_of_lt_of_le E_a.lt (Nat.le_of_eq z_is.symm))
          have ne_f_is : f ≠ is := Nat.ne_of_lt (Nat.lt_of_lt_of_le V_f.lt (Nat.le_of_eq z_is.symm))
          have ne_gs_is : gs ≠ is := Nat.ne_of_lt (Nat.lt_of_lt_of_le V_gs.lt (Nat.le_of_eq z_is.symm))
          have ne_gw_is : gw ≠ is := Nat.ne_of_lt (Nat.lt_of_lt_of_le V_gw.lt (Nat.le_of_eq z_is.symm))
          have ne_cg_is : cg ≠ is := Nat.ne_of_lt (Nat.lt_of_lt_of_le V_cg.lt (Nat.le_of_eq z_is.symm))
          have g_is : n0 ≤ is := by rw [z_is]; exact O.le
          have s_is : h0.size ≤ is := by rw [z_is]; exact KP.1
          replace E_a := E_a.ext E
          replace O := O.ext E
          replace KP := KP.ext E
          replace F_a_wireCount := F_a_wireCount.ext E
          replace F_a_from := F_a_from.ext E
          replace F_a_groupStart := F_a_groupStart.ext E
          replace F_a_groupWire := F_a_groupWire.ext E
          replace F_a_connectionGroup := F_a_connectionGroup.ext E
          replace F_a_incomingStart := F_a_incomingStart.ext E
          replace F_a_outgoingStart := F_a_outgoingStart.ext E
          replace F_a_outgoing := F_a_outgoing.ext E
          replace F_a_incoming := F_a_incoming.ext E
          replace V_f := V_f.ext E
          replace V_gs := V_gs.ext E
          replace V_gw := V_gw.ext E
          replace V_cg := V_cg.ext E
          replace E_cg := E_cg.ext E
          replace V_is : Arl Z h is .int ([0, 0, 0, 0].map nI) := V_is
          refine Go.putF C X eT (wd hw 21 rfl) Via.refl F_a_incomingStart E_a (Or.inr ⟨(wd hw 22 rfl), rfl, rfl⟩) (wd hw 3 rfl) (ty := (.array .int)) (by decide) rfl rfl d1_101 (n := 104) rfl ?_
          clear X eT
          intro T h X eT W
          replace E_a := E_a.wr W
          replace O := O.wr W g_a
          replace KP := KP.wr W (Or.inl (List.mem_of_getElem? (i := 0) rfl))
          replace F_a_wireCount := F_a_wireCount.other W (Or.inr (slot_ne (Or.inr (wd hw 12 rfl)) (Or.inr (wd hw 22 rfl)) (by decide) (t := .int) (t' := (.array .int)) (by decide) (by decide)))
          replace F_a_from := F_a_from.other W (Or.inr (slot_ne (Or.inr (wd hw 14 rfl)) (Or.inr (wd hw 22 rfl)) (by decide) (t := (.array .int)) (t' := (.array .int)) (by decide) (by decide)))
          replace F_a_groupStart := F_a_groupStart.other W (Or.inr (slot_ne (Or.inr (wd hw 16 rfl)) (Or.inr (wd hw 22 rfl)) (by decide) (t := (.array .int)) (t' := (.array .int)) (by decide) (by decide)))
          replace F_a_groupWire := F_a_groupWire.other W (Or.inr (slot_ne (Or.inr (wd hw 18 rfl)) (Or.inr (wd hw 22 rfl)) (by decide) (t := (.array .int)) (t' := (.array .int)) (by decide) (by decide)))
          replace F_a_connectionGroup := F_a_connectionGroup.other W (Or.inr (slot_ne (Or.inr (wd hw 20 rfl)) (Or.inr (wd hw 22 rfl)) (by decide) (t := (.array .int)) (t' := (.array .int)) (by decide) (by decide)))
          replace F_a_incomingStart := F_a_incomingStart.same W
          replace F_a_outgoingStart := F_a_outgoingStart.other W (Or.inr (slot_ne (Or.inr (wd hw 28 rfl)) (Or.inr (wd hw 22 rfl)) (by decide) (t := (.array .int)) (t' := (.array .int)) (by decide) (by decide)))
          replace F_a_outgoing := F_a_outgoing.other W (Or.inr (slot_ne (Or.inr (wd hw 42 rfl)) (Or.inr (wd hw 22 rfl)) (by decide) (t := (.array .int)) (t' := (.array .int)) (by decide) (by decide)))
          replace F_a_incoming := F_a_incoming.other W (Or.inr (slot_ne (Or.inr (wd hw 44 rfl)) (Or.inr (wd hw 22 rfl)) (by decide) (t := (.array .int)) (t' := (.array .int)) (by decide) (by decide)))
          replace V_f := V_f.other W ne_f_a
          replace V_gs := V_gs.other W ne_gs_a
          replace V_gw := V_gw.other W ne_gw_a
          replace V_cg := V_cg.other W (Ne.symm ne_a_cg)
          replace E_cg := E_cg.wr W
          replace V_is := V_is.other W (Ne.symm ne_a_is)
          replace E_is := E_is.wr W
          replace N := Fr.snoc X N g_a
          refine Go.iconst C X d1_104 (n := 105) rfl (v := (0 : Int32)) rfl ?_
          refine Go.istore C X d1_105 (n := 107) rfl (l' := #[.val (.ref a), .val (.int (3 : Int32)), .val (.ref f), .val (.ref gs), .val (.ref gw), .val (.int (0 : Int32)), .unset]) rfl ?_
          refine Go.iload C X d1_107 (n := 109) rfl rfl ?_
          refine Go.aload C X d1_109 (n := 111) rfl rfl rfl ?_
          refine Go.lengthL C X eT V_gw (z := (3 : Int32)) rfl d1_111 (n := 112) rfl ?_
          refine Go.icmp_ge C X d1_112 (n1 := 210) (n2 := 115) (by decide) (by decide) rfl (fun hc112 => ?_) (fun hc112 => ?_)
          · exact absurd hc112 (by decide)
          · refine Go.aloadN C X d1_115 (n := 116) rfl rfl rfl ?_
            refine Go.iload C X d1_116 (n := 118) rfl rfl ?_
            refine Go.iconst C X d1_118 (n := 119) rfl (v := (1 : Int32)) rfl ?_
            refine Go.iadd C X d1_119 (n := 120) rfl ?_
            show Go p e below _ (T.setTop (mkF m 120 #[.val (.ref a), .val (.int (3 : Int32)), .val (.ref f), .val (.ref gs), .val (.ref gw), .val (.int (0 : Int32)), .unset] [(.int (1 : Int32)), (.ref gs)]))
            refine Go.ialoadL C X eT V_gs (i := 1) rfl (v := .int (Int32.ofNat n1)) rfl d1_120 (n := 121) rfl ?_
            refine Go.aloadN C X d1_121 (n := 122) rfl rfl rfl ?_
            refine Go.iload C X d1_122 (n := 124) rfl rfl ?_
            refine Go.ialoadL C X eT V_gs (i := 0) rfl (v := .int (0 : Int32)) rfl d1_124 (n := 125) rfl ?_
            refine Go.icmp_gt C X d1_125 (n1 := 143) (n2 := 128) (by decide) (by decide) rfl (fun hc125 => ?_) (fun hc125 => ?_)
            · refine Go.aloadN C X d1_143 (n := 144) rfl rfl rfl ?_
              refine Go.aloadN C X d1_144 (n := 145) rfl rfl rfl ?_
              refine Go.iload C X d1_145 (n := 147) rfl rfl ?_
              refine Go.ialoadL C X eT V_gs (i := 0) rfl (v := .int (0 : Int32)) rfl d1_147 (n := 148) rfl ?_
              refine Go.aload C X d1_148 (n := 150) rfl rfl rfl ?_
              refine Go.iload C X d1_150 (n := 152) rfl rfl ?_
              refine Go.ialoadL C X eT V_gw (i := 0) rfl (v := .int (Int32.ofNat k0)) rfl d1_152 (n := 153) rfl ?_
              refine Go.priv C X eT (argsL := [(.int (0 : Int32)), (.int (Int32.ofNat k0))]) (rest := []) (a := a) (rm3 l Z a0 hw n0 _ a (0 : Int32) k0 hk0 F_a_wireCount) (wd hw 23 rfl) (wd hw 24 rfl) (wd hw 3 rfl) (wd hw 25 rfl) (wd hw 4 rfl) (wd hw 26 rfl) (by decide) E_a (lenOf pd_0 rfl) rfl d1_153 (n := 156) rfl rfl (by decide) (W := 0) rfl (by decide) (by decide) (by decide) ?_
              clear X eT
              intro T h' v L X eT hQ
              obtain ⟨rfl, rfl, hE⟩ := hQ
              replace hE := hE.symm
              subst hE
              replace N := N.app (Fr.nil n0)
              show Go p e below _ (T.setTop (mkF m 156 #[.val (.ref a), .val (.int (3 : Int32)), .val (.ref f), .val (.ref gs), .val (.ref gw), .val (.int (0 : Int32)), .unset] []))
              refine Go.aloadN C X d1_156 (n := 157) rfl rfl rfl ?_
              refine Go.iload C X d1_157 (n := 159) rfl rfl ?_
              refine Go.ialoadL C X eT V_gs (i := 0) rfl (v := .int (0 : Int32)) rfl d1_159 (n := 160) rfl ?_
              refine Go.istore C X d1_160 (n := 162) rfl (l' := #[.val (.ref a), .val (.int (3 : Int32)), .val (.ref f), .val (.ref gs), .val (.ref gw), .val (.int (0 : Int32)), .val (.int (0 : Int32))]) rfl ?_
              refine inner1 g_cg ne_a_cg ne_gs_cg (gn := 0) (un := n1) (by omega) rfl rfl hw (n1 - 0) 0 (by omega) C X eT F_a_connectionGroup V_gs V_cg (by first | rfl | exact lcg) N ?_
              clear X eT N
              intro T h locs vs X eT KK N V_cgn lcg
              replace E_a := E_a.keep KK
              replace O := O.keep KK (allS g_cg all0)
              replace KP := KP.trans KK (allS (Or.inr s_cg) all0)
              replace F_a_wireCount := F_a_wireCount.keep KK (ninS ne_a_cg nin0)
              replace F_a_from := F_a_from.keep KK (ninS ne_a_cg nin0)
              replace F_a_groupStart := F_a_groupStart.keep KK (ninS ne_a_cg nin0)
              replace F_a_groupWire := F_a_groupWire.keep KK (ninS ne_a_cg nin0)
              replace F_a_connectionGroup := F_a_connectionGroup.keep KK (ninS ne_a_cg nin0)
              replace F_a_incomingStart := F_a_incomingStart.keep KK (ninS ne_a_cg nin0)
              replace F_a_outgoingStart := F_a_outgoingStart.keep KK (ninS ne_a_cg nin0)
              replace F_a_outgoing := F_a_outgoing.keep KK (ninS ne_a_cg nin0)
              replace F_a_incoming := F_a_incoming.keep KK (ninS ne_a_cg nin0)
              replace V_f := V_f.keep KK (ninS ne_f_cg nin0)
              replace V_gs := V_gs.keep KK (ninS ne_gs_cg nin0)
              replace V_gw := V_gw.keep KK (ninS ne_gw_cg nin0)
              replace E_cg := E_cg.keep KK
              replace V_is := V_is.keep KK (ninS (Ne.symm ne_cg_is) nin0)
              replace E_is := E_is.keep KK
              try clear V_cg
              have V_cg := V_cgn
              clear V_cgn
              show Go p e below _ (T.setTop (mkF m 188 #[.val (.ref a), .val (.int (3 : Int32)), .val (.ref f), .val (.ref gs), .val (.ref gw), .val (.int (0 : Int32)), .val (.int (Int32.ofNat n1))] []))
              refine Go.aloadN C X d1_188 (n := 189) rfl rfl rfl ?_
              refine Go.getF C X eT (wd hw 21 rfl) Via.refl F_a_incomingStart d1_189 (n := 192) rfl ?_
              clear X eT
              intro T X eT
              refine Go.aload C X d1_192 (n := 194) rfl rfl rfl ?_
              refine Go.iload C X d1_194 (n := 196) rfl rfl ?_
              refine Go.ialoadL C X eT V_gw (i := 0) rfl (v := .int (Int32.ofNat k0)) rfl d1_196 (n := 197) rfl ?_
              refine Go.iconst C X d1_197 (n := 198) rfl (v := (1 : Int32)) rfl ?_
              refine Go.iadd C X d1_198 (n := 199) rfl ?_
              rw [own_sucI]
              show Go p e below _ (T.setTop (mkF m 199 #[.val (.ref a), .val (.int (3 : Int32)), .val (.ref f), .val (.ref gs), .val (.ref gw), .val (.int (0 : Int32)), .val (.int (Int32.ofNat n1))] [(.int (Int32.ofNat (k0 + 1))), (.ref is)]))
              refine Go.dup2 C X d1_199 (n := 200) rfl rfl rfl ?_
              refine Go.ialoadL C X eT V_is (i := (k0 + 1)) (own_toI (by omega)) (v := .int (Int32.ofNat (([0, 0, 0, 0]).getD (k0 + 1) 0))) (own_nat _ (by simp [own_bump_len] <;> omega)) d1_200 (n := 201) rfl ?_
              refine Go.iconst C X d1_201 (n := 202) rfl (v := (1 : Int32)) rfl ?_
              refine Go.iadd C X d1_202 (n := 203) rfl ?_
              rw [own_sucI]
              show Go p e below _ (T.setTop (mkF m 203 #[.val (.ref a), .val (.int (3 : Int32)), .val (.ref f), .val (.ref gs), .val (.ref gw), .val (.int (0 : Int32)), .val (.int (Int32.ofNat n1))] [(.int (Int32.ofNat ((([0, 0, 0, 0]).getD (k0 + 1) 0) + 1))), (.int (Int32.ofNat (k0 + 1))), (.ref is)]))
              refine Go.iastoreL C X eT V_is (i := (k0 + 1)) (own_toI (by omega)) (by simp [own_bump_len] <;> omega) d1_203 (n := 204) rfl ?_
              clear X eT
              intro T h X eT W V_new
              replace E_a := E_a.wr W
              replace O := O.wr W g_is
              replace KP := KP.wr W (Or.inr s_is)
              replace F_a_wireCount := F_a_wireCount.other W (Or.inl ne_a_is)
              replace F_a_from := F_a_from.other W (Or.inl ne_a_is)
              replace F_a_groupStart := F_a_groupStart.other W (Or.inl ne_a_is)
              replace F_a_groupWire := F_a_groupWire.other W (Or.inl ne_a_is)
              replace F_a_connectionGroup := F_a_connectionGroup.other W (Or.inl ne_a_is)
              replace F_a_incomingStart := F_a_incomingStart.other W (Or.inl ne_a_is)
              replace F_a_outgoingStart := F_a_outgoingStart.other W (Or.inl ne_a_is)
              replace F_a_outgoing := F_a_outgoing.other W (Or.inl ne_a_is)
              replace F_a_incoming := F_a_incoming.other W (Or.inl ne_a_is)
              replace V_f := V_f.other W ne_f_is
              replace V_gs := V_gs.other W ne_gs_is
              replace V_gw := V_gw.other W ne_gw_is
              replace E_cg := E_cg.wr W
              replace E_is := E_is.wr W
              replace V_cg := V_cg.other W ne_cg_is
              clear V_is
              have V_is : Arl Z h is .int ((bump ([0, 0, 0, 0]) (k0 + 1)).map nI) := by rw [own_setI] at V_new; exact V_new
              clear V_new
              replace N := Fr.snoc X N g_is
              refine Go.iinc C X d1_204 (n := 207) rfl (v := (1 : Int32)) rfl rfl (l' := #[.val (.ref a), .val (.int (3 : Int32)), .val (.ref f), .val (.ref gs), .val (.ref gw), .val (.int ((0 : Int32) + (1 : Int32))), .val (.int (Int32.ofNat n1))]) rfl ?_
              show Go p e below _ (T.setTop (mkF m 207 #[.val (.ref a), .val (.int (3 : Int32)), .val (.ref f), .val (.ref gs), .val (.ref gw), .val (.int (1 : Int32)), .val (.int (Int32.ofNat n1))] []))
              refine Go.goto C X d1_207 (n := 107) (by decide) (by decide) ?_
              refine Go.iload C X d1_107 (n := 109) rfl rfl ?_
              refine Go.aload C X d1_109 (n := 111) rfl rfl rfl ?_
              refine Go.lengthL C X eT V_gw (z := (3 : Int32)) rfl d1_111 (n := 112) rfl ?_
              refine Go.icmp_ge C X d1_112 (n1 := 210) (n2 := 115) (by decide) (by decide) rfl (fun hc112 => ?_) (fun hc112 => ?_)
              · exact absurd hc112 (by decide)
              · refine Go.aloadN C X d1_115 (n := 116) rfl rfl rfl ?_
                refine Go.iload C X d1_116 (n := 118) rfl rfl ?_
                refine Go.iconst C X d1_118 (n := 119) rfl (v := (1 : Int32)) rfl ?_
                refine Go.iadd C X d1_119 (n := 120) rfl ?_
                show Go p e below _ (T.setTop (mkF m 120 #[.val (.ref a), .val (.int (3 : Int32)), .val (.ref f), .val (.ref gs), .val (.ref gw), .val (.int (1 : Int32)), .val (.int (Int32.ofNat n1))] [(.int (2 : Int32)), (.ref gs)]))
                refine Go.ialoadL C X eT V_gs (i := 2) rfl (v := .int (Int32.ofNat n2)) rfl d1_120 (n := 121) rfl ?_
                refine Go.aloadN C X d1_121 (n := 122) rfl rfl rfl ?_
                refine Go.iload C X d1_122 (n := 124) rfl rfl ?_
                refine Go.ialoadL C X eT V_gs (i := 1) rfl (v := .int (Int32.ofNat n1)) rfl d1_124 (n := 125) rfl ?_
                refine Go.icmp_gt C X d1_125 (n1 := 143) (n2 := 128) (by decide) (by decide) rfl (fun hc125 => ?_) (fun hc125 => ?_)
                · refine Go.aloadN C X d1_143 (n := 144) rfl rfl rfl ?_
                  refine Go.aloadN C X d1_144 (n := 145) rfl rfl rfl ?_
                  refine Go.iload C X d1_145 (n := 147) rfl rfl ?_
                  refine Go.ialoadL C X eT V_gs (i := 1) rfl (v := .int (Int32.ofNat n1)) rfl d1_147 (n := 148) rfl ?_
                  refine Go.aload C X d1_148 (n := 150) rfl rfl rfl ?_
                  refine Go.iload C X d1_150 (n := 152) rfl rfl ?_
                  refine Go.ialoadL C X eT V_gw (i := 1) rfl (v := .int (Int32.ofNat k1)) rfl d1_152 (n := 153) rfl ?_
                  refine Go.priv C X eT (argsL := [(.int (Int32.ofNat n1)), (.int (Int32.ofNat k1))]) (rest := []) (a := a) (rm3 l Z a0 hw n0 _ a (Int32.ofNat n1) k1 hk1 F_a_wireCount) (wd hw 23 rfl) (wd hw 24 rfl) (wd hw 3 rfl) (wd hw 25 rfl) (wd hw 4 rfl) (wd hw 26 rfl) (by decide) E_a (lenOf pd_0 rfl) rfl d1_153 (n := 156) rfl rfl (by decide) (W := 0) rfl (by decide) (by decide) (by decide) ?_
                  clear X eT
                  intro T h' v L X eT hQ
                  obtain ⟨rfl, rfl, hE⟩ := hQ
                  replace hE := hE.symm
                  subst hE
                  replace N := N.app (Fr.nil n0)
                  show Go p e below _ (T.setTop (mkF m 156 #[.val (.ref a), .val (.int (3 : Int32)), .val (.ref f), .val (.ref gs), .val (.ref gw), .val (.int (1 : Int32)), .val (.int (Int32.ofNat n1))] []))
                  refine Go.aloadN C X d1_156 (n := 157) rfl rfl rfl ?_
                  refine Go.iload C X d1_157 (n := 159) rfl rfl ?_
                  refine Go.ialoadL C X eT V_gs (i := 1) rfl (v := .int (Int32.ofNat n1)) rfl d1_159 (n := 160) rfl ?_
                  refine Go.istore C X d1_160 (n := 162) rfl (l' := #[.val (.ref a), .val (.int (3 : Int32)), .val (.ref f), .val (.ref gs), .val (.ref gw), .val (.int (1 : Int32)), .val (.int (Int32.ofNat n1))]) rfl ?_
                  refine inner1 g_cg ne_a_cg ne_gs_cg (gn := 1) (un := n2) (by omega) rfl rfl hw (n2 - n1) n1 (by omega) C X eT F_a_connectionGroup V_gs V_cg (by first | rfl | exact lcg) N ?_
                  clear X eT N
                  intro T h locs vs X eT KK N V_cgn lcg
                  replace E_a := E_a.keep KK
                  replace O := O.keep KK (allS g_cg all0)
                  replace KP := KP.trans KK (allS (Or.inr s_cg) all0)
                  replace F_a_wireCount := F_a_wireCount.keep KK (ninS ne_a_cg nin0)
                  replace F_a_from := F_a_from.keep KK (ninS ne_a_cg nin0)
                  replace F_a_groupStart := F_a_groupStart.keep KK (ninS ne_a_cg nin0)
                  replace F_a_groupWire := F_a_groupWire.keep KK (ninS ne_a_cg nin0)
                  replace F_a_connectionGroup := F_a_connectionGroup.keep KK (ninS ne_a_cg nin0)
                  replace F_a_incomingStart := F_a_incomingStart.keep KK (ninS ne_a_cg nin0)
                  replace F_a_outgoingStart := F_a_outgoingStart.keep KK (ninS ne_a_cg nin0)
                  replace F_a_outgoing := F_a_outgoing.keep KK (ninS ne_a_cg nin0)
                  replace F_a_incoming := F_a_incoming.keep KK (ninS ne_a_cg nin0)
                  replace V_f := V_f.keep KK (ninS ne_f_cg nin0)
                  replace V_gs := V_gs.keep KK (ninS ne_gs_cg nin0)
                  replace V_gw := V_gw.keep KK (ninS ne_gw_cg nin0)
                  replace E_cg := E_cg.keep KK
                  replace V_is := V_is.keep KK (ninS (Ne.symm ne_cg_is) nin0)
                  replace E_is := E_is.keep KK
                  try clear V_cg
                  have V_cg := V_cgn
                  clear V_cgn
                  show Go p e below _ (T.setTop (mkF m 188 #[.val (.ref a), .val (.int (3 : Int32)), .val (.ref f), .val (.ref gs), .val (.ref gw), .val (.int (1 : Int32)), .val (.int (Int32.ofNat n2))] []))
                  refine Go.aloadN C X d1_188 (n := 189) rfl rfl rfl ?_
                  refine Go.getF C X eT (wd hw 21 rfl) Via.refl F_a_incomingStart d1_189 (n := 192) rfl ?_
                  clear X eT
                  intro T X eT
                  refine Go.aload C X d1_192 (n := 194) rfl rfl rfl ?_
                  refine Go.iload C X d1_194 (n := 196) rfl rfl ?_
                  refine Go.ialoadL C X eT V_gw (i := 1) rfl (v := .int (Int32.ofNat k1)) rfl d1_196 (n := 197) rfl ?_
                  refine Go.iconst C X d1_197 (n := 198) rfl (v := (1 : Int32)) rfl ?_
                  refine Go.iadd C X d1_198 (n := 199) rfl ?_
                  rw [own_sucI]
                  show Go p e below _ (T.setTop (mkF m 199 #[.val (.ref a), .val (.int (3 : Int32)), .val (.ref f), .val (.ref gs), .val (.ref gw), .val (.int (1 : Int32)), .val (.int (Int32.ofNat n2))] [(.int (Int32.ofNat (k1 + 1))), (.ref is)]))
                  refine Go.dup2 C X d1_199 (n := 200) rfl rfl rfl ?_
                  refine Go.ialoadL C X eT V_is (i := (k1 + 1)) (own_toI (by omega)) (v := .int (Int32.ofNat ((bump ([0, 0, 0, 0]) (k0 + 1)).getD (k1 + 1) 0))) (own_nat _ (by simp [own_bump_len] <;> omega)) d1_200 (n := 201) rfl ?_
                  refine Go.iconst C X d1_201 (n := 202) rfl (v := (1 : Int32)) rfl ?_
                  refine Go.iadd C X d1_202 (n := 203) rfl ?_
                  rw [own_sucI]
                  show Go p e below _ (T.setTop (mkF m 203 #[.val (.ref a), .val (.int (3 : Int32)), .val (.ref f), .val (.ref gs), .val (.ref gw), .val (.int (1 : Int32)), .val (.int (Int32.ofNat n2))] [(.int (Int32.ofNat (((bump ([0, 0, 0, 0]) (k0 + 1)).getD (k1 + 1) 0) + 1))), (.int (Int32.ofNat (k1 + 1))), (.ref is)]))
                  refine Go.iastoreL C X eT V_is (i := (k1 + 1)) (own_toI (by omega)) (by simp [own_bump_len] <;> omega) d1_203 (n := 204) rfl ?_
                  clear X eT
                  intro T h X eT W V_new
                  replace E_a := E_a.wr W
                  replace O := O.wr W g_is
                  replace KP := KP.wr W (Or.inr s_is)
                  replace F_a_wireCount := F_a_wireCount.other W (Or.inl ne_a_is)
                  replace F_a_from := F_a_from.other W (Or.inl ne_a_is)
                  replace F_a_groupStart := F_a_groupStart.other W (Or.inl ne_a_is)
                  replace F_a_groupWire := F_a_groupWire.other W (Or.inl ne_a_is)
                  replace F_a_connectionGroup := F_a_connectionGroup.other W (Or.inl ne_a_is)
                  replace F_a_incomingStart := F_a_incomingStart.other W (Or.inl ne_a_is)
                  replace F_a_outgoingStart := F_a_outgoingStart.other W (Or.inl ne_a_is)
                  replace F_a_outgoing := F_a_outgoing.other W (Or.inl ne_a_is)
                  replace F_a_incoming := F_a_incoming.other W (Or.inl ne_a_is)
                  replace V_f := V_f.other W ne_f_is
                  replace V_gs := V_gs.other W ne_gs_is
                  replace V_gw := V_gw.other W ne_gw_is
                  replace E_cg := E_cg.wr W
                  replace E_is := E_is.wr W
                  replace V_cg := V_cg.other W ne_cg_is
                  clear V_is
                  have V_is : Arl Z h is .int ((bump (bump ([0, 0, 0, 0]) (k0 + 1)) (k1 + 1)).map nI) := by rw [own_setI] at V_new; exact V_new
                  clear V_new
                  replace N := Fr.snoc X N g_is
                  refine Go.iinc C X d1_204 (n := 207) rfl (v := (1 : Int32)) rfl rfl (l' := #[.val (.ref a), .val (.int (3 : Int32)), .val (.ref f), .val (.ref gs), .val (.ref gw), .val (.int ((1 : Int32) + (1 : Int32))), .val (.int (Int32.ofNat n2))]) rfl ?_
                  show Go p e below _ (T.setTop (mkF m 207 #[.val (.ref a), .val (.int (3 : Int32)), .val (.ref f), .val (.ref gs), .val (.ref gw), .val (.int (2 : Int32)), .val (.int (Int32.ofNat n2))] []))
                  refine Go.goto C X d1_207 (n := 107) (by decide) (by decide) ?_
                  refine Go.iload C X d1_107 (n := 109) rfl rfl ?_
                  refine Go.aload C X d1_109 (n := 111) rfl rfl rfl ?_
                  refine Go.lengthL C X eT V_gw (z := (3 : Int32)) rfl d1_111 (n := 112) rfl ?_
                  refine Go.icmp_ge C X d1_112 (n1 := 210) (n2 := 115) (by decide) (by decide) rfl (fun hc112 => ?_) (fun hc112 => ?_)
                  · exact absurd hc112 (by decide)
                  · refine Go.aloadN C X d1_115 (n := 116) rfl rfl rfl ?_
                    refine Go.iload C X d1_116 (n := 118) rfl rfl ?_
                    refine Go.iconst C X d1_118 (n := 119) rfl (v := (1 : Int32)) rfl ?_
                    refine Go.iadd C X d1_119 (n := 120) rfl ?_
                    show Go p e below _ (T.setTop (mkF m 120 #[.val (.ref a), .val (.int (3 : Int32)), .val (.ref f), .val (.ref gs), .val (.ref gw), .val (.int (2 : Int32)), .val (.int (Int32.ofNat n2))] [(.int (3 : Int32)), (.ref gs)]))
                    refine Go.ialoadL C X eT V_gs (i := 3) rfl (v := .int (6 : Int32)) rfl d1_120 (n := 121) rfl ?_
                    refine Go.aloadN C X d1_121 (n := 122) rfl rfl rfl ?_
                    refine Go.iload C X d1_122 (n := 124) rfl rfl ?_
                    refine Go.ialoadL C X eT V_gs (i := 2) rfl (v := .int (Int32.ofNat n2)) rfl d1_124 (n := 125) rfl ?_
                    refine Go.icmp_gt C X d1_125 (n1 := 143) (n2 := 128) (by decide) (by decide) rfl (fun hc125 => ?_) (fun hc125 => ?_)
                    · refine Go.aloadN C X d1_143 (n := 144) rfl rfl rfl ?_
                      refine Go.aloadN C X d1_144 (n := 145) rfl rfl rfl ?_
                      refine Go.iload C X d1_145 (n := 147) rfl rfl ?_
                      refine Go.ialoadL C X eT V_gs (i := 2) rfl (v := .int (Int32.ofNat n2)) rfl d1_147 (n := 148) rfl ?_
                      refine Go.aload C X d1_148 (n := 150) rfl rfl rfl ?_
                      refine Go.iload C X d1_150 (n := 152) rfl rfl ?_
                      refine Go.ialoadL C X eT V_gw (i := 2) rfl (v := .int (Int32.ofNat k2)) rfl d1_152 (n := 153) rfl ?_
                      refine Go.priv C X eT (argsL := [(.int (Int32.ofNat n2)), (.int (Int32.ofNat k2))]) (rest := []) (a := a) (rm3 l Z a0 hw n0 _ a (Int32.ofNat n2) k2 hk2 F_a_wireCount) (wd hw 23 rfl) (wd hw 24 rfl) (wd hw 3 rfl) (wd hw 25 rfl) (wd hw 4 rfl) (wd hw 26 rfl) (by decide) E_a (lenOf pd_0 rfl) rfl d1_153 (n := 156) rfl rfl (by decide) (W := 0) rfl (by decide) (by decide) (by decide) ?_
                      clear X eT
                      intro T h' v L X eT hQ
                      obtain ⟨rfl, rfl, hE⟩ := hQ
                      replace hE := hE.symm
                      subst hE
                      replace N := N.app (Fr.nil n0)
                      show Go p e below _ (T.setTop (mkF m 156 #[.val (.ref a), .val (.int (3 : Int32)), .val (.ref f), .val (.ref gs), .val (.ref gw), .val (.int (2 : Int32)), .val (.int (Int32.ofNat n2))] []))
                      refine Go.aloadN C X d1_156 (n := 157) rfl rfl rfl ?_
                      refine Go.iload C X d1_157 (n := 159) rfl rfl ?_
                      refine Go.ialoadL C X eT V_gs (i := 2) rfl (v := .int (Int32.ofNat n2)) rfl d1_159 (n := 160) rfl ?_
                      refine Go.istore C X d1_160 (n := 162) rfl (l' := #[.val (.ref a), .val (.int (3 : Int32)), .val (.ref f), .val (.ref gs), .val (.ref gw), .val (.int (2 : Int32)), .val (.int (Int32.ofNat n2))]) rfl ?_
                      refine inner1 g_cg ne_a_cg ne_gs_cg (gn := 2) (un := 6) (by omega) rfl rfl hw (6 - n2) n2 (by omega) C X eT F_a_connectionGroup V_gs V_cg (by first | rfl | exact lcg) N ?_
                      clear X eT N
                      intro T h locs vs X eT KK N V_cgn lcg
                      replace E_a := E_a.keep KK
                      replace O := O.keep KK (allS g_cg all0)
                      replace KP := KP.trans KK (allS (Or.inr s_cg) all0)
                      replace F_a_wireCount := F_a_wireCount.keep KK (ninS ne_a_cg nin0)
                      replace F_a_from := F_a_from.keep KK (ninS ne_a_cg nin0)
                      replace F_a_groupStart := F_a_groupStart.keep KK (ninS ne_a_cg nin0)
                      replace F_a_groupWire := F_a_groupWire.keep KK (ninS ne_a_cg nin0)
                      replace F_a_connectionGroup := F_a_connectionGroup.keep KK (ninS ne_a_cg nin0)
                      replace F_a_incomingStart := F_a_incomingStart.keep KK (ninS ne_a_cg nin0)
                      replace F_a_outgoingStart := F_a_outgoingStart.keep KK (ninS ne_a_cg nin0)
                      replace F_a_outgoing := F_a_outgoing.keep KK (ninS ne_a_cg nin0)
                      replace F_a_incoming := F_a_incoming.keep KK (ninS ne_a_cg nin0)
                      replace V_f := V_f.keep KK (ninS ne_f_cg nin0)
                      replace V_gs := V_gs.keep KK (ninS ne_gs_cg nin0)
                      replace V_gw := V_gw.keep KK (ninS ne_gw_cg nin0)
                      replace E_cg := E_cg.keep KK
                      replace V_is := V_is.keep KK (ninS (Ne.symm ne_cg_is) nin0)
                      replace E_is := E_is.keep KK
                      try clear V_cg
                      have V_cg := V_cgn
                      clear V_cgn
                      show Go p e below _ (T.setTop (mkF m 188 #[.val (.ref a), .val (.int (3 : Int32)), .val (.ref f), .val (.ref gs), .val (.ref gw), .val (.int (2 : Int32)), .val (.int (Int32.ofNat 6))] []))
                      refine Go.aloadN C X d1_188 (n := 189) rfl rfl rfl ?_
                      refine Go.getF C X eT (wd hw 21 rfl) Via.refl F_a_incomingStart d1_189 (n := 192) rfl ?_
                      clear X eT
                      intro T X eT
                      refine Go.aload C X d1_192 (n := 194) rfl rfl rfl ?_
                      refine Go.iload C X d1_194 (n := 196) rfl rfl ?_
                      refine Go.ialoadL C X eT V_gw (i := 2) rfl (v := .int (Int32.ofNat k2)) rfl d1_196 (n := 197) rfl ?_
                      refine Go.iconst C X d1_197 (n := 198) rfl (v := (1 : Int32)) rfl ?_
                      refine Go.iadd C X d1_198 (n := 199) rfl ?_
                      rw [own_sucI]
                      show Go p e below _ (T.setTop (mkF m 199 #[.val (.ref a), .val (.int (3 : Int32)), .val (.ref f), .val (.ref gs), .val (.ref gw), .val (.int (2 : Int32)), .val (.int (Int32.ofNat 6))] [(.int (Int32.ofNat (k2 + 1))), (.ref is)]))
                      refine Go.dup2 C X d1_199 (n := 200) rfl rfl rfl ?_
                      refine Go.ialoadL C X eT V_is (i := (k2 + 1)) (own_toI (by omega)) (v := .int (Int32.ofNat ((bump (bump ([0, 0, 0, 0]) (k0 + 1)) (k1 + 1)).getD (k2 + 1) 0))) (own_nat _ (by simp [own_bump_len] <;> omega)) d1_200 (n := 201) rfl ?_
                      refine Go.iconst C X d1_201 (n := 202) rfl (v := (1 : Int32)) rfl ?_
                      refine Go.iadd C X d1_202 (n := 203) rfl ?_
                      rw [own_sucI]
                      show Go p e below _ (T.setTop (mkF m 203 #[.val (.ref a), .val (.int (3 : Int32)), .val (.ref f), .val (.ref gs), .val (.ref gw), .val (.int (2 : Int32)), .val (.int (Int32.ofNat 6))] [(.int (Int32.ofNat (((bump (bump ([0, 0, 0, 0]) (k0 + 1)) (k1 + 1)).getD (k2 + 1) 0) + 1))), (.int (Int32.ofNat (k2 + 1))), (.ref is)]))
                      refine Go.iastoreL C X eT V_is (i := (k2 + 1)) (own_toI (by omega)) (by simp [own_bump_len] <;> omega) d1_203 (n := 204) rfl ?_
                      clear X eT
                      intro T h X eT W V_new
                      replace E_a := E_a.wr W
                      replace O := O.wr W g_is
                      replace KP := KP.wr W (Or.inr s_is)
                      replace F_a_wireCount := F_a_wireCount.other W (Or.inl ne_a_is)
                      replace F_a_from := F_a_from.other W (Or.inl ne_a_is)
                      replace F_a_groupStart := F_a_groupStart.other W (Or.inl ne_a_is)
                      replace F_a_groupWire := F_a_groupWire.other W (Or.inl ne_a_is)
                      replace F_a_connectionGroup := F_a_connectionGroup.other W (Or.inl ne_a_is)
                      replace F_a_incomingStart := F_a_incomingStart.other W (Or.inl ne_a_is)
                      replace F_a_outgoingStart := F_a_outgoingStart.other W (Or.inl ne_a_is)
                      replace F_a_outgoing := F_a_outgoing.other W (Or.inl ne_a_is)
                      replace F_a_incoming := F_a_incoming.other W (Or.inl ne_a_is)
                      replace V_f := V_f.other W ne_f_is
                      replace V_gs := V_gs.other W ne_gs_is
                      replace V_gw := V_gw.other W ne_gw_is
                      replace E_cg := E_cg.wr W
                      replace E_is := E_is.wr W
                      replace V_cg := V_cg.other W ne_cg_is
                      clear V_is
                      have V_is : Arl Z h is .int ((bump (bump (bump ([0, 0, 0, 0]) (k0 + 1)) (k1 + 1)) (k2 + 1)).map nI) := by rw [own_setI] at V_new; exact V_new
                      clear V_new
                      replace N := Fr.snoc X N g_is
                      refine Go.iinc C X d1_204 (n := 207) rfl (v := (1 : Int32)) rfl rfl (l' := #[.val (.ref a), .val (.int (3 : Int32)), .val (.ref f), .val (.ref gs), .val (.ref gw), .val (.int ((2 : Int32) + (1 : Int32))), .val (.int (Int32.ofNat 6))]) rfl ?_
                      show Go p e below _ (T.setTop (mkF m 207 #[.val (.ref a), .val (.int (3 : Int32)), .val (.ref f), .val (.ref gs), .val (.ref gw), .val (.int (3 : Int32)), .val (.int (Int32.ofNat 6))] []))
                      refine Go.goto C X d1_207 (n := 107) (by decide) (by decide) ?_
                      refine Go.iload C X d1_107 (n := 109) rfl rfl ?_
                      refine Go.aload C X d1_109 (n := 111) rfl rfl rfl ?_
                      refine Go.lengthL C X eT V_gw (z := (3 : Int32)) rfl d1_111 (n := 112) rfl ?_
                      refine Go.icmp_ge C X d1_112 (n1 := 210) (n2 := 115) (by decide) (by decide) rfl (fun hc112 => ?_) (fun hc112 => ?_)
                      · refine Go.aloadN C X d1_210 (n := 211) rfl rfl rfl ?_
                        refine Go.iloadN C X d1_211 (n := 212) rfl rfl ?_
                        refine Go.iconst C X d1_212 (n := 213) rfl (v := (1 : Int32)) rfl ?_
                        refine Go.iadd C X d1_213 (n := 214) rfl ?_
                        show Go p e below _ (T.setTop (mkF m 214 #[.val (.ref a), .val (.int (3 : Int32)), .val (.ref f), .val (.ref gs), .val (.ref gw), .val (.int (3 : Int32)), .val (.int (Int32.ofNat 6))] [(.int (4 : Int32)), (.ref a)]))
                        refine Go.newLE C X eT (wd hw 1 rfl) (i := 4) rfl (cap := 4) (by decide) d1_214 (n := 216) rfl (by decide) (by decide) (by decide) (ad := "[I") (by decide) ?_
                        clear X eT
                        intro T h os z_os X eT E V_os E_os
                        have ne_a_os : a ≠ os := Nat.ne_of_lt (Nat.lt_of_lt_of_le E_a.lt (Nat.le_of_eq z_os.symm))
                        have ne_f_os : f ≠ os := Nat.ne_of_lt (Nat.lt_of_lt_of_le V_f.lt (Nat.le_of_eq z_os.symm))
                        have ne_gs_os : gs ≠ os := Nat.ne_of_lt (Nat.lt_of_lt_of_le V_gs.lt (Nat.le_of_eq z_os.symm))
                        have ne_gw_os : gw ≠ os := Nat.ne_of_lt (Nat.lt_of_lt_of_le V_gw.lt (Nat.le_of_eq z_os.symm))
                        have ne_cg_os : cg ≠ os := Nat.ne_of_lt (Nat.lt_of_lt_of_le E_cg.lt (Nat.le_of_eq z_os.symm))
                        have ne_is_os : is ≠ os := Nat.ne_of_lt (Nat.lt_of_lt_of_le V_is.lt (Nat.le_of_eq z_os.symm))
                        have g_os : n0 ≤ os := by rw [z_os]; exact O.le
                        have s_os : h0.size ≤ os := by rw [z_os]; exact KP.1
                        replace E_a := E_a.ext E
                        replace O := O.ext E
                        replace KP := KP.ext E
                        replace F_a_wireCount := F_a_wireCount.ext E
                        replace F_a_from := F_a_from.ext E
                        replace F_a_groupStart := F_a_groupStart.ext E
                        replace F_a_groupWire := F_a_groupWire.ext E
                        replace F_a_connectionGroup := F_a_connectionGroup.ext E
                        replace F_a_incomingStart := F_a_incomingStart.ext E
                        replace F_a_outgoingStart := F_a_outgoingStart.ext E
                        replace F_a_outgoing := F_a_outgoing.ext E
                        replace F_a_incoming := F_a_incoming.ext E
                        replace V_f := V_f.ext E
                        replace V_gs := V_gs.ext E
                        replace V_gw := V_gw.ext E
                        replace E_cg := E_cg.ext E
                        replace V_is := V_is.ext E
                        replace E_is := E_is.ext E
                        replace V_cg := V_cg.ext E
                        replace V_os : Arl Z h os .int ([0, 0, 0, 0].map nI) := V_os
                        refine Go.putF C X eT (wd hw 27 rfl) Via.refl F_a_outgoingStart E_a (Or.inr ⟨(wd hw 28 rfl), rfl, rfl⟩) (wd hw 3 rfl) (ty := (.array .int)) (by decide) rfl rfl d1_216 (n := 219) rfl ?_
                        clear X eT
                        intro T h X eT W
                        replace E_a := E_a.wr W
                        replace O := O.wr W g_a
                        replace KP := KP.wr W (Or.inl (List.mem_of_getElem? (i := 0) rfl))
                        replace F_a_wireCount := F_a_wireCount.other W (Or.inr (slot_ne (Or.inr (wd hw 12 rfl)) (Or.inr (wd hw 28 rfl)) (by decide) (t := .int) (t' := (.array .int)) (by decide) (by decide)))
                        replace F_a_from := F_a_from.other W (Or.inr (slot_ne (Or.inr (wd hw 14 rfl)) (Or.inr (wd hw 28 rfl)) (by decide) (t := (.array .int)) (t' := (.array .int)) (by decide) (by decide)))
                        replace F_a_groupStart := F_a_groupStart.other W (Or.inr (slot_ne (Or.inr (wd hw 16 rfl)) (Or.inr (wd hw 28 rfl)) (by decide) (t := (.array .int)) (t' := (.array .int)) (by decide) (by decide)))
                        replace F_a_groupWire := F_a_groupWire.other W (Or.inr (slot_ne (Or.inr (wd hw 18 rfl)) (Or.inr (wd hw 28 rfl)) (by decide) (t := (.array .int)) (t' := (.array .int)) (by decide) (by decide)))
                        replace F_a_connectionGroup := F_a_connectionGroup.other W (Or.inr (slot_ne (Or.inr (wd hw 20 rfl)) (Or.inr (wd hw 28 rfl)) (by decide) (t := (.array .int)) (t' := (.array .int)) (by decide) (by decide)))
                        replace F_a_incomingStart := F_a_incomingStart.other W (Or.inr (slot_ne (Or.inr (wd hw 22 rfl)) (Or.inr (wd hw 28 rfl)) (by decide) (t := (.array .int)) (t' := (.array .int)) (by decide) (by decide)))
                        replace F_a_outgoingStart := F_a_outgoingStart.same W
                        replace F_a_outgoing := F_a_outgoing.other W (Or.inr (slot_ne (Or.inr (wd hw 42 rfl)) (Or.inr (wd hw 28 rfl)) (by decide) (t := (.array .int)) (t' := (.array .int)) (by decide) (by decide)))
                        replace F_a_incoming := F_a_incoming.other W (Or.inr (slot_ne (Or.inr (wd hw 44 rfl)) (Or.inr (wd hw 28 rfl)) (by decide) (t := (.array .int)) (t' := (.array .int)) (by decide) (by decide)))
                        replace V_f := V_f.other W ne_f_a
                        replace V_gs := V_gs.other W ne_gs_a
                        replace V_gw := V_gw.other W ne_gw_a
                        replace E_cg := E_cg.wr W
                        replace V_is := V_is.other W (Ne.symm ne_a_is)
                        replace E_is := E_is.wr W
                        replace V_cg := V_cg.other W (Ne.symm ne_a_cg)
                        replace V_os := V_os.other W (Ne.symm ne_a_os)
                        replace E_os := E_os.wr W
                        replace N := Fr.snoc X N g_a
                        refine Go.iconst C X d1_219 (n := 220) rfl (v := (0 : Int32)) rfl ?_
                        refine Go.istore C X d1_220 (n := 222) rfl (l' := #[.val (.ref a), .val (.int (3 : Int32)), .val (.ref f), .val (.ref gs), .val (.ref gw), .val (.int (0 : Int32)), .val (.int (Int32.ofNat 6))]) rfl ?_
                        refine Go.iload C X d1_222 (n := 224) rfl rfl ?_
                        refine Go.aloadN C X d1_224 (n := 225) rfl rfl rfl ?_
                        refine Go.lengthL C X eT V_f (z := (6 : Int32)) rfl d1_225 (n := 226) rfl ?_
                        refine Go.icmp_ge C X d1_226 (n1 := 260) (n2 := 229) (by decide) (by decide) rfl (fun hc226 => ?_) (fun hc226 => ?_)
                        · exact absurd hc226 (by decide)
                        · refine Go.aloadN C X d1_229 (n := 230) rfl rfl rfl ?_
                          refine Go.iload C X d1_230 (n := 232) rfl rfl ?_
                          refine Go.aloadN C X d1_232 (n := 233) rfl rfl rfl ?_
                          refine Go.iload C X d1_233 (n := 235) rfl rfl ?_
                          refine Go.ialoadL C X eT V_f (i := 0) rfl (v := .int (Int32.ofNat 0)) rfl d1_235 (n := 236) rfl ?_
                          refine Go.priv C X eT (argsL := [(.int (0 : Int32)), (.int (Int32.ofNat 0))]) (rest := []) (a := a) (rm3 l Z a0 hw n0 _ a (0 : Int32) 0 (by decide) F_a_wireCount) (wd hw 23 rfl) (wd hw 24 rfl) (wd hw 3 rfl) (wd hw 25 rfl) (wd hw 4 rfl) (wd hw 26 rfl) (by decide) E_a (lenOf pd_0 rfl) rfl d1_236 (n := 239) rfl rfl (by decide) (W := 0) rfl (by decide) (by decide) (by decide) ?_
                          clear X eT
                          intro T h' v L X eT hQ
                          obtain ⟨rfl, rfl, hE⟩ := hQ
                          replace hE := hE.symm
                          subst hE
                          replace N := N.app (Fr.nil n0)
                          show Go p e below _ (T.setTop (mkF m 239 #[.val (.ref a), .val (.int (3 : Int32)), .val (.ref f), .val (.ref gs), .val (.ref gw), .val (.int (0 : Int32)), .val (.int (Int32.ofNat 6))] []))
                          refine Go.aloadN C X d1_239 (n := 240) rfl rfl rfl ?_
                          refine Go.getF C X eT (wd hw 27 rfl) Via.refl F_a_outgoingStart d1_240 (n := 243) rfl ?_
                          clear X eT
                          intro T X eT
                          refine Go.aloadN C X d1_243 (n := 244) rfl rfl rfl ?_
                          refine Go.iload C X d1_244 (n := 246) rfl rfl ?_
                          refine Go.ialoadL C X eT V_f (i := 0) rfl (v := .int (Int32.ofNat 0)) rfl d1_246 (n := 247) rfl ?_
                          refine Go.iconst C X d1_247 (n := 248) rfl (v := (1 : Int32)) rfl ?_
                          refine Go.iadd C X d1_248 (n := 249) rfl ?_
                          rw [own_sucI]
                          show Go p e below _ (T.setTop (mkF m 249 #[.val (.ref a), .val (.int (3 : Int32)), .val (.ref f), .val (.ref gs), .val (.ref gw), .val (.int (0 : Int32)), .val (.int (Int32.ofNat 6))] [(.int (Int32.ofNat (0 + 1))), (.ref os)]))
                          refine Go.dup2 C X d1_249 (n := 250) rfl rfl rfl ?_
                          refine Go.ialoadL C X eT V_os (i := 1) rfl (v := .int (Int32.ofNat 0)) rfl d1_250 (n := 251) rfl ?_
                          refine Go.iconst C X d1_251 (n := 252) rfl (v := (1 : Int32)) rfl ?_
                          refine Go.iadd C X d1_252 (n := 253) rfl ?_
                          rw [own_sucI]
                          show Go p e below _ (T.setTop (mkF m 253 #[.val (.ref a), .val (.int (3 : Int32)), .val (.ref f), .val (.ref gs), .val (.ref gw), .val (.int (0 : Int32)), .val (.int (Int32.ofNat 6))] [(.int (Int32.ofNat (0 + 1))), (.int (Int32.ofNat (0 + 1))), (.ref os)]))
                          refine Go.iastoreL C X eT V_os (i := 1) rfl (by decide) d1_253 (n := 254) rfl ?_
                          clear X eT
                          intro T h X eT W V_new
                          replace E_a := E_a.wr W
                          replace O := O.wr W g_os
                          replace KP := KP.wr W (Or.inr s_os)
                          replace F_a_wireCount := F_a_wireCount.other W (Or.inl ne_a_os)
                          replace F_a_from := F_a_from.other W (Or.inl ne_a_os)
                          replace F_a_groupStart := F_a_groupStart.other W (Or.inl ne_a_os)
                          replace F_a_groupWire := F_a_groupWire.other W (Or.inl ne_a_os)
                          replace F_a_connectionGroup := F_a_connectionGroup.other W (Or.inl ne_a_os)
                          replace F_a_incomingStart := F_a_incomingStart.other W (Or.inl ne_a_os)
                          replace F_a_outgoingStart := F_a_outgoingStart.other W (Or.inl ne_a_os)
                          replace F_a_outgoing := F_a_outgoing.other W (Or.inl ne_a_os)
                          replace F_a_incoming := F_a_incoming.other W (Or.inl ne_a_os)
                          replace V_f := V_f.other W ne_f_os
                          replace V_gs := V_gs.other W ne_gs_os
                          replace V_gw := V_gw.other W ne_gw_os
                          replace E_cg := E_cg.wr W
                          replace V_is := V_is.other W ne_is_os
                          replace E_is := E_is.wr W
                          replace V_cg := V_cg.other W ne_cg_os
                          replace E_os := E_os.wr W
                          clear V_os
                          have V_os : Arl Z h os .int ([0, 1, 0, 0].map nI) := V_new
                          clear V_new
                          replace N := Fr.snoc X N g_os
                          refine Go.iinc C X d1_254 (n := 257) rfl (v := (1 : Int32)) rfl rfl (l' := #[.val (.ref a), .val (.int (3 : Int32)), .val (.ref f), .val (.ref gs), .val (.ref gw), .val (.int ((0 : Int32) + (1 : Int32))), .val (.int (Int32.ofNat 6))]) rfl ?_
                          show Go p e below _ (T.setTop (mkF m 257 #[.val (.ref a), .val (.int (3 : Int32)), .val (.ref f), .val (.ref gs), .val (.ref gw), .val (.int (1 : Int32)), .val (.int (Int32.ofNat 6))] []))
                          refine Go.goto C X d1_257 (n := 222) (by decide) (by decide) ?_
                          refine Go.iload C X d1_222 (n := 224) rfl rfl ?_
                          refine Go.aloadN C X d1_224 (n := 225) rfl rfl rfl ?_
                          refine Go.lengthL C X eT V_f (z := (6 : Int32)) rfl d1_225 (n := 226) rfl ?_
                          refine Go.icmp_ge C X d1_226 (n1 := 260) (n2 := 229) (by decide) (by decide) rfl (fun hc226 => ?_) (fun hc226 => ?_)
                          · exact absurd hc226 (by decide)
                          · refine Go.aloadN C X d1_229 (n := 230) rfl rfl rfl ?_
                            refine Go.iload C X d1_230 (n := 232) rfl rfl ?_
                            refine Go.aloadN C X d1_232 (n := 233) rfl rfl rfl ?_
                            refine Go.iload C X d1_233 (n := 235) rfl rfl ?_
                            refine Go.ialoadL C X eT V_f (i := 1) rfl (v := .int (Int32.ofNat 0)) rfl d1_235 (n := 236) rfl ?_
                            refine Go.priv C X eT (argsL := [(.int (1 : Int32)), (.int (Int32.ofNat 0))]) (rest := []) (a := a) (rm3 l Z a0 hw n0 _ a (1 : Int32) 0 (by decide) F_a_wireCount) (wd hw 23 rfl) (wd hw 24 rfl) (wd hw 3 rfl) (wd hw 25 rfl) (wd hw 4 rfl) (wd hw 26 rfl) (by decide) E_a (lenOf pd_0 rfl) rfl d1_236 (n := 239) rfl rfl (by decide) (W := 0) rfl (by decide) (by decide) (by decide) ?_
                            clear X eT
                            intro T h' v L X eT hQ
                            obtain ⟨rfl, rfl, hE⟩ := hQ
                            replace hE := hE.symm
                            subst hE
                            replace N := N.app (Fr.nil n0)
                            show Go p e below _ (T.setTop (mkF m 239 #[.val (.ref a), .val (.int (3 : Int32)), .val (.ref f), .val (.ref gs), .val (.ref gw), .val (.int (1 : Int32)), .val (.int (Int32.ofNat 6))] []))
                            refine Go.aloadN C X d1_239 (n := 240) rfl rfl rfl ?_
                            refine Go.getF C X eT (wd hw 27 rfl) Via.refl F_a_outgoingStart d1_240 (n := 243) rfl ?_
                            clear X eT
                            intro T X eT
                            refine Go.aloadN C X d1_243 (n := 244) rfl rfl rfl ?_
                            refine Go.iload C X d1_244 (n := 246) rfl rfl ?_
                            refine Go.ialoadL C X eT V_f (i := 1) rfl (v := .int (Int32.ofNat 0)) rfl d1_246 (n := 247) rfl ?_
                            refine Go.iconst C X d1_247 (n := 248) rfl (v := (1 : Int32)) rfl ?_
                            refine Go.iadd C X d1_248 (n := 249) rfl ?_
                            rw [own_sucI]
                            show Go p e below _ (T.setTop (mkF m 249 #[.val (.ref a), .val (.int (3 : Int32)), .val (.ref f), .val (.ref gs), .val (.ref gw), .val (.int (1 : Int32)), .val (.int (Int32.ofNat 6))] [(.int (Int32.ofNat (0 + 1))), (.ref os)]))
                            refine Go.dup2 C X d1_249 (n := 250) rfl rfl rfl ?_
                            refine Go.ialoadL C X eT V_os (i := 1) rfl (v := .int (Int32.ofNat 1)) rfl d1_250 (n := 251) rfl ?_
                            refine Go.iconst C X d1_251 (n := 252) rfl (v := (1 : Int32)) rfl ?_
                            refine Go.iadd C X d1_252 (n := 253) rfl ?_
                            rw [own_sucI]
                            show Go p e below _ (T.setTop (mkF m 253 #[.val (.ref a), .val (.int (3 : Int32)), .val (.ref f), .val (.ref gs), .val (.ref gw), .val (.int (1 : Int32)), .val (.int (Int32.ofNat 6))] [(.int (Int32.ofNat (1 + 1))), (.int (Int32.ofNat (0 + 1))), (.ref os)]))
                            refine Go.iastoreL C X eT V_os (i := 1) rfl (by decide) d1_253 (n := 254) rfl ?_
                            clear X eT
                            intro T h X eT W V_new
                            replace E_a := E_a.wr W
                            replace O := O.wr W g_os
                            replace KP := KP.wr W (Or.inr s_os)
                            replace F_a_wireCount := F_a_wireCount.other W (Or.inl ne_a_os)
                            replace F_a_from := F_a_from.other W (Or.inl ne_a_os)
                            replace F_a_groupStart := F_a_groupStart.other W (Or.inl ne_a_os)
                            replace F_a_groupWire := F_a_groupWire.other W (Or.inl ne_a_os)
                            replace F_a_connectionGroup := F_a_connectionGroup.other W (Or.inl ne_a_os)
                            replace F_a_incomingStart := F_a_incomingStart.other W (Or.inl ne_a_os)
                            replace F_a_outgoingStart := F_a_outgoingStart.other W (Or.inl ne_a_os)
                            replace F_a_outgoing := F_a_outgoing.other W (Or.inl ne_a_os)
                            replace F_a_incoming := F_a_incoming.other W (Or.inl ne_a_os)
                            replace V_f := V_f.other W ne_f_os
                            replace V_gs := V_gs.other W ne_gs_os
                            replace V_gw := V_gw.other W ne_gw_os
                            replace E_cg := E_cg.wr W
                            replace V_is := V_is.other W ne_is_os
                            replace E_is := E_is.wr W
                            replace V_cg := V_cg.other W ne_cg_os
                            replace E_os := E_os.wr W
                            clear V_os
                            have V_os : Arl Z h os .int ([0, 2, 0, 0].map nI) := V_new
                            clear V_new
                            replace N := Fr.snoc X N g_os
                            refine Go.iinc C X d1_254 (n := 257) rfl (v := (1 : Int32)) rfl rfl (l' := #[.val (.ref a), .val (.int (3 : Int32)), .val (.ref f), .val (.ref gs), .val (.ref gw), .val (.int ((1 : Int32) + (1 : Int32))), .val (.int (Int32.ofNat 6))]) rfl ?_
                            show Go p e below _ (T.setTop (mkF m 257 #[.val (.ref a), .val (.int (3 : Int32)), .val (.ref f), .val (.ref gs), .val (.ref gw), .val (.int (2 : Int32)), .val (.int (Int32.ofNat 6))] []))
                            refine Go.goto C X d1_257 (n := 222) (by decide) (by decide) ?_
                            refine Go.iload C X d1_222 (n := 224) rfl rfl ?_
                            refine Go.aloadN C X d1_224 (n := 225) rfl rfl rfl ?_
                            refine Go.lengthL C X eT V_f (z := (6 : Int32)) rfl d1_225 (n := 226) rfl ?_
                            refine Go.icmp_ge C X d1_226 (n1 := 260) (n2 := 229) (by decide) (by decide) rfl (fun hc226 => ?_) (fun hc226 => ?_)
                            · exact absurd hc226 (by decide)
                            · refine Go.aloadN C X d1_229 (n := 230) rfl rfl rfl ?_
                              refine Go.iload C X d1_230 (n := 232) rfl rfl ?_
                              refine Go.aloadN C X d1_232 (n := 233) rfl rfl rfl ?_
                              refine Go.iload C X d1_233 (n := 235) rfl rfl ?_
                              refine Go.ialoadL C X eT V_f (i := 2) rfl (v := .int (Int32.ofNat 0)) rfl d1_235 (n := 236) rfl ?_
                              refine Go.priv C X eT (argsL := [(.int (2 : Int32)), (.int (Int32.ofNat 0))]) (rest := []) (a := a) (rm3 l Z a0 hw n0 _ a (2 : Int32) 0 (by decide) F_a_wireCount) (wd hw 23 rfl) (wd hw 24 rfl) (wd hw 3 rfl) (wd hw 25 rfl) (wd hw 4 rfl) (wd hw 26 rfl) (by decide) E_a (lenOf pd_0 rfl) rfl d1_236 (n := 239) rfl rfl (by decide) (W := 0) rfl (by decide) (by decide) (by decide) ?_
                              clear X eT
                              intro T h' v L X eT hQ
                              obtain ⟨rfl, rfl, hE⟩ := hQ
                              replace hE := hE.symm
                              subst hE
                              replace N := N.app (Fr.nil n0)
                              show Go p e below _ (T.setTop (mkF m 239 #[.val (.ref a), .val (.int (3 : Int32)), .val (.ref f), .val (.ref gs), .val (.ref gw), .val (.int (2 : Int32)), .val (.int (Int32.ofNat 6))] []))
                              refine Go.aloadN C X d1_239 (n := 240) rfl rfl rfl ?_
                              refine Go.getF C X eT (wd hw 27 rfl) Via.refl F_a_outgoingStart d1_240 (n := 243) rfl ?_
                              clear X eT
                              intro T X eT
                              refine Go.aloadN C X d1_243 (n := 244) rfl rfl rfl ?_
                              refine Go.iload C X d1_244 (n := 246) rfl rfl ?_
                              refine Go.ialoadL C X eT V_f (i := 2) rfl (v := .int (Int32.ofNat 0)) rfl d1_246 (n := 247) rfl ?_
                              refine Go.iconst C X d1_247 (n := 248) rfl (v := (1 : Int32)) rfl ?_
                              refine Go.iadd C X d1_248 (n := 249) rfl ?_
                              rw [own_sucI]
                              show Go p e below _ (T.setTop (mkF m 249 #[.val (.ref a), .val (.int (3 : Int32)), .val (.ref f), .val (.ref gs), .val (.ref gw), .val (.int (2 : Int32)), .val (.int (Int32.ofNat 6))] [(.int (Int32.ofNat (0 + 1))), (.ref os)]))
                              refine Go.dup2 C X d1_249 (n := 250) rfl rfl rfl ?_
                              refine Go.ialoadL C X eT V_os (i := 1) rfl (v := .int (Int32.ofNat 2)) rfl d1_250 (n := 251) rfl ?_
                              refine Go.iconst C X d1_251 (n := 252) rfl (v := (1 : Int32)) rfl ?_
                              refine Go.iadd C X d1_252 (n := 253) rfl ?_
                              rw [own_sucI]
                              show Go p e below _ (T.setTop (mkF m 253 #[.val (.ref a), .val (.int (3 : Int32)), .val (.ref f), .val (.ref gs), .val (.ref gw), .val (.int (2 : Int32)), .val (.int (Int32.ofNat 6))] [(.int (Int32.ofNat (2 + 1))), (.int (Int32.ofNat (0 + 1))), (.ref os)]))
                              refine Go.iastoreL C X eT V_os (i := 1) rfl (by decide) d1_253 (n := 254) rfl ?_
                              clear X eT
                              intro T h X eT W V_new
                              replace E_a := E_a.wr W
                              replace O := O.wr W g_os
                              replace KP := KP.wr W (Or.inr s_os)
                              replace F_a_wireCount := F_a_wireCount.other W (Or.inl ne_a_os)
                              replace F_a_from := F_a_from.other W (Or.inl ne_a_os)
                              replace F_a_groupStart := F_a_groupStart.other W (Or.inl ne_a_os)
                              replace F_a_groupWire := F_a_groupWire.other W (Or.inl ne_a_os)
                              replace F_a_connectionGroup := F_a_connectionGroup.other W (Or.inl ne_a_os)
                              replace F_a_incomingStart := F_a_incomingStart.other W (Or.inl ne_a_os)
                              replace F_a_outgoingStart := F_a_outgoingStart.other W (Or.inl ne_a_os)
                              replace F_a_outgoing := F_a_outgoing.other W (Or.inl ne_a_os)
                              replace F_a_incoming := F_a_incoming.other W (Or.inl ne_a_os)
                              replace V_f := V_f.other W ne_f_os
                              replace V_gs := V_gs.other W ne_gs_os
                              replace V_gw := V_gw.other W ne_gw_os
                              replace E_cg := E_cg.wr W
                              replace V_is := V_is.other W ne_is_os
                              replace E_is := E_is.wr W
                              replace V_cg := V_cg.other W ne_cg_os
                              replace E_os := E_os.wr W
                              clear V_os
                              have V_os : Arl Z h os .int ([0, 3, 0, 0].map nI) := V_new
                              clear V_new
                              replace N := Fr.snoc X N g_os
                              refine Go.iinc C X d1_254 (n := 257) rfl (v := (1 : Int32)) rfl rfl (l' := #[.val (.ref a), .val (.int (3 : Int32)), .val (.ref f), .val (.ref gs), .val (.ref gw), .val (.int ((2 : Int32) + (1 : Int32))), .val (.int (Int32.ofNat 6))]) rfl ?_
                              show Go p e below _ (T.setTop (mkF m 257 #[.val (.ref a), .val (.int (3 : Int32)), .val (.ref f), .val (.ref gs), .val (.ref gw), .val (.int (3 : Int32)), .val (.int (Int32.ofNat 6))] []))
                              refine Go.goto C X d1_257 (n := 222) (by decide) (by decide) ?_
                              refine Go.iload C X d1_222 (n := 224) rfl rfl ?_
                              refine Go.aloadN C X d1_224 (n := 225) rfl rfl rfl ?_
                              refine Go.lengthL C X eT V_f (z := (6 : Int32)) rfl d1_225 (n := 226) rfl ?_
                              refine Go.icmp_ge C X d1_226 (n1 := 260) (n2 := 229) (by decide) (by decide) rfl (fun hc226 => ?_) (fun hc226 => ?_)
                              · exact absurd hc226 (by decide)
                              · refine Go.aloadN C X d1_229 (n := 230) rfl rfl rfl ?_
                                refine Go.iload C X d1_230 (n := 232) rfl rfl ?_
                                refine Go.aloadN C X d1_232 (n := 233) rfl rfl rfl ?_
                                refine Go.iload C X d1_233 (n := 235) rfl rfl ?_
                                refine Go.ialoadL C X eT V_f (i := 3) rfl (v := .int (Int32.ofNat 0)) rfl d1_235 (n := 236) rfl ?_
                                refine Go.priv C X eT (argsL := [(.int (3 : Int32)), (.int (Int32.ofNat 0))]) (rest := []) (a := a) (rm3 l Z a0 hw n0 _ a (3 : Int32) 0 (by decide) F_a_wireCount) (wd hw 23 rfl) (wd hw 24 rfl) (wd hw 3 rfl) (wd hw 25 rfl) (wd hw 4 rfl) (wd hw 26 rfl) (by decide) E_a (lenOf pd_0 rfl) rfl d1_236 (n := 239) rfl rfl (by decide) (W := 0) rfl (by decide) (by decide) (by decide) ?_
                                clear X eT
                                intro T h' v L X eT hQ
                                obtain ⟨rfl, rfl, hE⟩ := hQ
                                replace hE := hE.symm
                                subst hE
                                replace N := N.app (Fr.nil n0)
                                show Go p e below _ (T.setTop (mkF m 239 #[.val (.ref a), .val (.int (3 : Int32)), .val (.ref f), .val (.ref gs), .val (.ref gw), .val (.int (3 : Int32)), .val (.int (Int32.ofNat 6))] []))
                                refine Go.aloadN C X d1_239 (n := 240) rfl rfl rfl ?_
                                refine Go.getF C X eT (wd hw 27 rfl) Via.refl F_a_outgoingStart d1_240 (n := 243) rfl ?_
                                clear X eT
                                intro T X eT
                                refine Go.aloadN C X d1_243 (n := 244) rfl rfl rfl ?_
                                refine Go.iload C X d1_244 (n := 246) rfl rfl ?_
                                refine Go.ialoadL C X eT V_f (i := 3) rfl (v := .int (Int32.ofNat 0)) rfl d1_246 (n := 247) rfl ?_
                                refine Go.iconst C X d1_247 (n := 248) rfl (v := (1 : Int32)) rfl ?_
                                refine Go.iadd C X d1_248 (n := 249) rfl ?_
                                rw [own_sucI]
                                show Go p e below _ (T.setTop (mkF m 249 #[.val (.ref a), .val (.int (3 : Int32)), .val (.ref f), .val (.ref gs), .val (.ref gw), .val (.int (3 : Int32)), .val (.int (Int32.ofNat 6))] [(.int (Int32.ofNat (0 + 1))), (.ref os)]))
                                refine Go.dup2 C X d1_249 (n := 250) rfl rfl rfl ?_
                                refine Go.ialoadL C X eT V_os (i := 1) rfl (v := .int (Int32.ofNat 3)) rfl d1_250 (n := 251) rfl ?_
                                refine Go.iconst C X d1_251 (n := 252) rfl (v := (1 : Int32)) rfl ?_
                                refine Go.iadd C X d1_252 (n := 253) rfl ?_
                                rw [own_sucI]
                                show Go p e below _ (T.setTop (mkF m 253 #[.val (.ref a), .val (.int (3 : Int32)), .val (.ref f), .val (.ref gs), .val (.ref gw), .val (.int (3 : Int32)), .val (.int (Int32.ofNat 6))] [(.int (Int32.ofNat (3 + 1))), (.int (Int32.ofNat (0 + 1))), (.ref os)]))
                                refine Go.iastoreL C X eT V_os (i := 1) rfl (by decide) d1_253 (n := 254) rfl ?_
                                clear X eT
                                intro T h X eT W V_new
                                replace E_a := E_a.wr W
                                replace O := O.wr W g_os
                                replace KP := KP.wr W (Or.inr s_os)
                                replace F_a_wireCount := F_a_wireCount.other W (Or.inl ne_a_os)
                                replace F_a_from := F_a_from.other W (Or.inl ne_a_os)
                                replace F_a_groupStart := F_a_groupStart.other W (Or.inl ne_a_os)
                                replace F_a_groupWire := F_a_groupWire.other W (Or.inl ne_a_os)
                                replace F_a_connectionGroup := F_a_connectionGroup.other W (Or.inl ne_a_os)
                                replace F_a_incomingStart := F_a_incomingStart.other W (Or.inl ne_a_os)
                                replace F_a_outgoingStart := F_a_outgoingStart.other W (Or.inl ne_a_os)
                                replace F_a_outgoing := F_a_outgoing.other W (Or.inl ne_a_os)
                                replace F_a_incoming := F_a_incoming.other W (Or.inl ne_a_os)
                                replace V_f := V_f.other W ne_f_os
                                replace V_gs := V_gs.other W ne_gs_os
                                replace V_gw := V_gw.other W ne_gw_os
                                replace E_cg := E_cg.wr W
                                replace V_is := V_is.other W ne_is_os
                                replace E_is := E_is.wr W
                                replace V_cg := V_cg.other W ne_cg_os
                                replace E_os := E_os.wr W
                                clear V_os
                                have V_os : Arl Z h os .int ([0, 4, 0, 0].map nI) := V_new
                                clear V_new
                                replace N := Fr.snoc X N g_os
                                refine Go.iinc C X d1_254 (n := 257) rfl (v := (1 : Int32)) rfl rfl (l' := #[.val (.ref a), .val (.int (3 : Int32)), .val (.ref f), .val (.ref gs), .val (.ref gw), .val (.int ((3 : Int32) + (1 : Int32))), .val (.int (Int32.ofNat 6))]) rfl ?_
                                show Go p e below _ (T.setTop (mkF m 257 #[.val (.ref a), .val (.int (3 : Int32)), .val (.ref f), .val (.ref gs), .val (.ref gw), .val (.int (4 : Int32)), .val (.int (Int32.ofNat 6))] []))
                                refine Go.goto C X d1_257 (n := 222) (by decide) (by decide) ?_
                                refine Go.iload C X d1_222 (n := 224) rfl rfl ?_
                                refine Go.aloadN C X d1_224 (n := 225) rfl rfl rfl ?_
                                refine Go.lengthL C X eT V_f (z := (6 : Int32)) rfl d1_225 (n := 226) rfl ?_
                                refine Go.icmp_ge C X d1_226 (n1 := 260) (n2 := 229) (by decide) (by decide) rfl (fun hc226 => ?_) (fun hc226 => ?_)
                                · exact absurd hc226 (by decide)
                                · refine Go.aloadN C X d1_229 (n := 230) rfl rfl rfl ?_
                                  refine Go.iload C X d1_230 (n := 232) rfl rfl ?_
                                  refine Go.aloadN C X d1_232 (n := 233) rfl rfl rfl ?_
                                  refine Go.iload C X d1_233 (n := 235) rfl rfl ?_
                                  refine Go.ialoadL C X eT V_f (i := 4) rfl (v := .int (Int32.ofNat 0)) rfl d1_235 (n := 236) rfl ?_
                                  refine Go.priv C X eT (argsL := [(.int (4 : Int32)), (.int (Int32.ofNat 0))]) (rest := []) (a := a) (rm3 l Z a0 hw n0 _ a (4 : Int32) 0 (by decide) F_a_wireCount) (wd hw 23 rfl) (wd hw 24 rfl) (wd hw 3 rfl) (wd hw 25 rfl) (wd hw 4 rfl) (wd hw 26 rfl) (by decide) E_a (lenOf pd_0 rfl) rfl d1_236 (n := 239) rfl rfl (by decide) (W := 0) rfl (by decide) (by decide) (by decide) ?_
                                  clear X eT
                                  intro T h' v L X eT hQ
                                  obtain ⟨rfl, rfl, hE⟩ := hQ
                                  replace hE := hE.symm
                                  subst hE
                                  replace N := N.app (Fr.nil n0)
                                  show Go p e below _ (T.setTop (mkF m 239 #[.val (.ref a), .val (.int (3 : Int32)), .val (.ref f), .val (.ref gs), .val (.ref gw), .val (.int (4 : Int32)), .val (.int (Int32.ofNat 6))] []))
                                  refine Go.aloadN C X d1_239 (n := 240) rfl rfl rfl ?_
                                  refine Go.getF C X eT (wd hw 27 rfl) Via.refl F_a_outgoingStart d1_240 (n := 243) rfl ?_
                                  clear X eT
                                  intro T X eT
                                  refine Go.aloadN C X d1_243 (n := 244) rfl rfl rfl ?_
                                  refine Go.iload C X d1_244 (n := 246) rfl rfl ?_
                                  refine Go.ialoadL C X eT V_f (i := 4) rfl (v := .int (Int32.ofNat 0)) rfl d1_246 (n := 247) rfl ?_
                                  refine Go.iconst C X d1_247 (n := 248) rfl (v := (1 : Int32)) rfl ?_
                                  refine Go.iadd C X d1_248 (n := 249) rfl ?_
                                  rw [own_sucI]
                                  show Go p e below _ (T.setTop (mkF m 249 #[.val (.ref a), .val (.int (3 : Int32)), .val (.ref f), .val (.ref gs), .val (.ref gw), .val (.int (4 : Int32)), .val (.int (Int32.ofNat 6))] [(.int (Int32.ofNat (0 + 1))), (.ref os)]))
                                  refine Go.dup2 C X d1_249 (n := 250) rfl rfl rfl ?_
                                  refine Go.ialoadL C X eT V_os (i := 1) rfl (v := .int (Int32.ofNat 4)) rfl d1_250 (n := 251) rfl ?_
                                  refine Go.iconst C X d1_251 (n := 252) rfl (v := (1 : Int32)) rfl ?_
                                  refine Go.iadd C X d1_252 (n := 253) rfl ?_
                                  rw [own_sucI]
                                  show Go p e below _ (T.setTop (mkF m 253 #[.val (.ref a), .val (.int (3 : Int32)), .val (.ref f), .val (.ref gs), .val (.ref gw), .val (.int (4 : Int32)), .val (.int (Int32.ofNat 6))] [(.int (Int32.ofNat (4 + 1))), (.int (Int32.ofNat (0 + 1))), (.ref os)]))
                                  refine Go.iastoreL C X eT V_os (i := 1) rfl (by decide) d1_253 (n := 254) rfl ?_
                                  clear X eT
                                  intro T h X eT W V_new
                                  replace E_a := E_a.wr W
                                  replace O := O.wr W g_os
                                  replace KP := KP.wr W (Or.inr s_os)
                                  replace F_a_wireCount := F_a_wireCount.other W (Or.inl ne_a_os)
                                  replace F_a_from := F_a_from.other W (Or.inl ne_a_os)
                                  replace F_a_groupStart := F_a_groupStart.other W (Or.inl ne_a_os)
                                  replace F_a_groupWire := F_a_groupWire.other W (Or.inl ne_a_os)
                                  replace F_a_connectionGroup := F_a_connectionGroup.other W (Or.inl ne_a_os)
                                  replace F_a_incomingStart := F_a_incomingStart.other W (Or.inl ne_a_os)
                                  replace F_a_outgoingStart := F_a_outgoingStart.other W (Or.inl ne_a_os)
                                  replace F_a_outgoing := F_a_outgoing.other W (Or.inl ne_a_os)
                                  replace F_a_incoming := F_a_incoming.other W (Or.inl ne_a_os)
                                  replace V_f := V_f.other W ne_f_os
                                  replace V_gs := V_gs.other W ne_gs_os
                                  replace V_gw := V_gw.other W ne_gw_os
                                  replace E_cg := E_cg.wr W
                                  replace V_is := V_is.other W ne_is_os
                                  replace E_is := E_is.wr W
                                  replace V_cg := V_cg.other W ne_cg_os
                                  replace E_os := E_os.wr W
                                  clear V_os
                                  have V_os : Arl Z h os .int ([0, 5, 0, 0].map nI) := V_new
                                  clear V_new
                                  replace N := Fr.snoc X N g_os
                                  refine Go.iinc C X d1_254 (n := 257) rfl (v := (1 : Int32)) rfl rfl (l' := #[.val (.ref a), .val (.int (3 : Int32)), .val (.ref f), .val (.ref gs), .val (.ref gw), .val (.int ((4 : Int32) + (1 : Int32))), .val (.int (Int32.ofNat 6))]) rfl ?_
                                  show Go p e below _ (T.setTop (mkF m 257 #[.val (.ref a), .val (.int (3 : Int32)), .val (.ref f), .val (.ref gs), .val (.ref gw), .val (.int (5 : Int32)), .val (.int (Int32.ofNat 6))] []))
                                  refine Go.goto C X d1_257 (n := 222) (by decide) (by decide) ?_
                                  refine Go.iload C X d1_222 (n := 224) rfl rfl ?_
                                  refine Go.aloadN C X d1_224 (n := 225) rfl rfl rfl ?_
                                  refine Go.lengthL C X eT V_f (z := (6 : Int32)) rfl d1_225 (n := 226) rfl ?_
                                  refine Go.icmp_ge C X d1_226 (n1 := 260) (n2 := 229) (by decide) (by decide) rfl (fun hc226 => ?_) (fun hc226 => ?_)
                                  · exact absurd hc226 (by decide)
                                  · refine Go.aloadN C X d1_229 (n := 230) rfl rfl rfl ?_
                                    refine Go.iload C X d1_230 (n := 232) rfl rfl ?_
                                    refine Go.aloadN C X d1_232 (n := 233) rfl rfl rfl ?_
                                    refine Go.iload C X d1_233 (n := 235) rfl rfl ?_
                                    refine Go.ialoadL C X eT V_f (i := 5) rfl (v := .int (Int32.ofNat 0)) rfl d1_235 (n := 236) rfl ?_
                                    refine Go.priv C X eT (argsL := [(.int (5 : Int32)), (.int (Int32.ofNat 0))]) (rest := []) (a := a) (rm3 l Z a0 hw n0 _ a (5 : Int32) 0 (by decide) F_a_wireCount) (wd hw 23 rfl) (wd hw 24 rfl) (wd hw 3 rfl) (wd hw 25 rfl) (wd hw 4 rfl) (wd hw 26 rfl) (by decide) E_a (lenOf pd_0 rfl) rfl d1_236 (n := 239) rfl rfl (by decide) (W := 0) rfl (by decide) (by decide) (by decide) ?_
                                    clear X eT
                                    intro T h' v L X eT hQ
                                    obtain ⟨rfl, rfl, hE⟩ := hQ
                                    replace hE := hE.symm
                                    subst hE
                                    replace N := N.app (Fr.nil n0)
                                    show Go p e below _ (T.setTop (mkF m 239 #[.val (.ref a), .val (.int (3 : Int32)), .val (.ref f), .val (.ref gs), .val (.ref gw), .val (.int (5 : Int32)), .val (.int (Int32.ofNat 6))] []))
                                    refine Go.aloadN C X d1_239 (n := 240) rfl rfl rfl ?_
                                    refine Go.getF C X eT (wd hw 27 rfl) Via.refl F_a_outgoingStart d1_240 (n := 243) rfl ?_
                                    clear X eT
                                    intro T X eT
                                    refine Go.aloadN C X d1_243 (n := 244) rfl rfl rfl ?_
                                    refine Go.iload C X d1_244 (n := 246) rfl rfl ?_
                                    refine Go.ialoadL C X eT V_f (i := 5) rfl (v := .int (Int32.ofNat 0)) rfl d1_246 (n := 247) rfl ?_
                                    refine Go.iconst C X d1_247 (n := 248) rfl (v := (1 : Int32)) rfl ?_
                                    refine Go.iadd C X d1_248 (n := 249) rfl ?_
                                    rw [own_sucI]
                                    show Go p e below _ (T.setTop (mkF m 249 #[.val (.ref a), .val (.int (3 : Int32)), .val (.ref f), .val (.ref gs), .val (.ref gw), .val (.int (5 : Int32)), .val (.int (Int32.ofNat 6))] [(.int (Int32.ofNat (0 + 1))), (.ref os)]))
                                    refine Go.dup2 C X d1_249 (n := 250) rfl rfl rfl ?_
                                    refine Go.ialoadL C X eT V_os (i := 1) rfl (v := .int (Int32.ofNat 5)) rfl d1_250 (n := 251) rfl ?_
                                    refine Go.iconst C X d1_251 (n := 252) rfl (v := (1 : Int32)) rfl ?_
                                    refine Go.iadd C X d1_252 (n := 253) rfl ?_
                                    rw [own_sucI]
                                    show Go p e below _ (T.setTop (mkF m 253 #[.val (.ref a), .val (.int (3 : Int32)), .val (.ref f), .val (.ref gs), .val (.ref gw), .val (.int (5 : Int32)), .val (.int (Int32.ofNat 6))] [(.int (Int32.ofNat (5 + 1))), (.int (Int32.ofNat (0 + 1))), (.ref os)]))
                                    refine Go.iastoreL C X eT V_os (i := 1) rfl (by decide) d1_253 (n := 254) rfl ?_
                                    clear X eT
                                    intro T h X eT W V_new
                                    replace E_a := E_a.wr W
                                    replace O := O.wr W g_os
                                    replace KP := KP.wr W (Or.inr s_os)
                                    replace F_a_wireCount := F_a_wireCount.other W (Or.inl ne_a_os)
                                    replace F_a_from := F_a_from.other W (Or.inl ne_a_os)
                                    replace F_a_groupStart := F_a_groupStart.other W (Or.inl ne_a_os)
                                    replace F_a_groupWire := F_a_groupWire.other W (Or.inl ne_a_os)
                                    replace F_a_connectionGroup := F_a_connectionGroup.other W (Or.inl ne_a_os)
                                    replace F_a_incomingStart := F_a_incomingStart.other W (Or.inl ne_a_os)
                                    replace F_a_outgoingStart := F_a_outgoingStart.other W (Or.inl ne_a_os)
                                    replace F_a_outgoing := F_a_outgoing.other W (Or.inl ne_a_os)
                                    replace F_a_incoming := F_a_incoming.other W (Or.inl ne_a_os)
                                    replace V_f := V_f.other W ne_f_os
                                    replace V_gs := V_gs.other W ne_gs_os
                                    replace V_gw := V_gw.other W ne_gw_os
                                    replace E_cg := E_cg.wr W
                                    replace V_is := V_is.other W ne_is_os
                                    replace E_is := E_is.wr W
                                    replace V_cg := V_cg.other W ne_cg_os
                                    replace E_os := E_os.wr W
                                    clear V_os
                                    have V_os : Arl Z h os .int ([0, 6, 0, 0].map nI) := V_new
                                    clear V_new
                                    replace N := Fr.snoc X N g_os
                                    refine Go.iinc C X d1_254 (n := 257) rfl (v := (1 : Int32)) rfl rfl (l' := #[.val (.ref a), .val (.int (3 : Int32)), .val (.ref f), .val (.ref gs), .val (.ref gw), .val (.int ((5 : Int32) + (1 : Int32))), .val (.int (Int32.ofNat 6))]) rfl ?_
                                    show Go p e below _ (T.setTop (mkF m 257 #[.val (.ref a), .val (.int (3 : Int32)), .val (.ref f), .val (.ref gs), .val (.ref gw), .val (.int (6 : Int32)), .val (.int (Int32.ofNat 6))] []))
                                    refine Go.goto C X d1_257 (n := 222) (by decide) (by decide) ?_
                                    refine Go.iload C X d1_222 (n := 224) rfl rfl ?_
                                    refine Go.aloadN C X d1_224 (n := 225) rfl rfl rfl ?_
                                    refine Go.lengthL C X eT V_f (z := (6 : Int32)) rfl d1_225 (n := 226) rfl ?_
                                    refine Go.icmp_ge C X d1_226 (n1 := 260) (n2 := 229) (by decide) (by decide) rfl (fun hc226 => ?_) (fun hc226 => ?_)
                                    · refine Go.aloadN C X d1_260 (n := 261) rfl rfl rfl ?_
                                      refine Go.aloadN C X d1_261 (n := 262) rfl rfl rfl ?_
                                      refine Go.aloadN C X d1_262 (n := 263) rfl rfl rfl ?_
                                      refine Go.getF C X eT (wd hw 27 rfl) Via.refl F_a_outgoingStart d1_263 (n := 266) rfl ?_
                                      clear X eT
                                      intro T X eT
                                      refine Go.stat C X eT (argsL := [(.ref f), (.ref os)]) (rest := [(.ref a)]) (rm4 l Z a0 hw n0 _ f os [0, 0, 0, 0, 0, 0] 0 6 0 0 [0, 1, 2, 3, 4, 5] (by decide) g_os ne_f_os O E_os V_f V_os (by decide +kernel)) (wd hw 29 rfl) (wd hw 30 rfl) (wd hw 4 rfl) (wd hw 31 rfl) (by decide) (lenOf pd_1 rfl) rfl d1_266 (n := 269) rfl rfl (by decide) (W := 1) rfl (by decide) (by decide) (by decide) ?_
                                      clear X eT
                                      intro T h v L X eT hQ
                                      obtain ⟨og, rfl, Nq, KK, s_og, V_og, V_os⟩ := hQ
                                      replace N := N.app Nq
                                      have ne_a_og : a ≠ og := Nat.ne_of_lt (Nat.lt_of_lt_of_le E_a.lt s_og)
                                      have ne_f_og : f ≠ og := Nat.ne_of_lt (Nat.lt_of_lt_of_le V_f.lt s_og)
                                      have ne_gs_og : gs ≠ og := Nat.ne_of_lt (Nat.lt_of_lt_of_le V_gs.lt s_og)
                                      have ne_gw_og : gw ≠ og := Nat.ne_of_lt (Nat.lt_of_lt_of_le V_gw.lt s_og)
                                      have ne_cg_og : cg ≠ og := Nat.ne_of_lt (Nat.lt_of_lt_of_le E_cg.lt s_og)
                                      have ne_is_og : is ≠ og := Nat.ne_of_lt (Nat.lt_of_lt_of_le V_is.lt s_og)
                                      have ne_os_og : os ≠ og := Nat.ne_of_lt (Nat.lt_of_lt_of_le E_os.lt s_og)
                                      have g_og : n0 ≤ og := Nat.le_trans O.le s_og
                                      have sz_og : h0.size ≤ og := Nat.le_trans KP.1 s_og
                                      replace E_a := E_a.keep KK
                                      replace O := O.keep KK (allS g_os all0)
                                      replace KP := KP.trans KK (allS (Or.inr s_os) all0)
                                      replace F_a_wireCount := F_a_wireCount.keep KK (ninS ne_a_os nin0)
                                      replace F_a_from := F_a_from.keep KK (ninS ne_a_os nin0)
                                      replace F_a_groupStart := F_a_groupStart.keep KK (ninS ne_a_os nin0)
                                      replace F_a_groupWire := F_a_groupWire.keep KK (ninS ne_a_os nin0)
                                      replace F_a_connectionGroup := F_a_connectionGroup.keep KK (ninS ne_a_os nin0)
                                      replace F_a_incomingStart := F_a_incomingStart.keep KK (ninS ne_a_os nin0)
                                      replace F_a_outgoingStart := F_a_outgoingStart.keep KK (ninS ne_a_os nin0)
                                      replace F_a_outgoing := F_a_outgoing.keep KK (ninS ne_a_os nin0)
                                      replace F_a_incoming := F_a_incoming.keep KK (ninS ne_a_os nin0)
                                      replace V_f := V_f.keep KK (ninS ne_f_os nin0)
                                      replace V_gs := V_gs.keep KK (ninS ne_gs_os nin0)
                                      replace V_gw := V_gw.keep KK (ninS ne_gw_os nin0)
                                      replace E_cg := E_cg.keep KK
                                      replace V_is := V_is.keep KK (ninS ne_is_os nin0)
                                      replace E_is := E_is.keep KK
                                      replace V_cg := V_cg.keep KK (ninS ne_cg_os nin0)
                                      replace E_os := E_os.keep KK
                                      show Go p e below _ (T.setTop (mkF m 269 #[.val (.ref a), .val (.int (3 : Int32)), .val (.ref f), .val (.ref gs), .val (.ref gw), .val (.int (6 : Int32)), .val (.int (Int32.ofNat 6))] [(.ref og), (.ref a)]))
                                      refine Go.putF C X eT (wd hw 41 rfl) Via.refl F_a_outgoing E_a (Or.inr ⟨(wd hw 42 rfl), rfl, rfl⟩) (wd hw 3 rfl) (ty := (.array .int)) (by decide) rfl rfl d1_269 (n := 272) rfl ?_
                                      clear X eT
                                      intro T h X eT W
                                      replace E_a := E_a.wr W
                                      replace O := O.wr W g_a
                                      replace KP := KP.wr W (Or.inl (List.mem_of_getElem? (i := 0) rfl))
                                      replace F_a_wireCount := F_a_wireCount.other W (Or.inr (slot_ne (Or.inr (wd hw 12 rfl)) (Or.inr (wd hw 42 rfl)) (by decide) (t := .int) (t' := (.array .int)) (by decide) (by decide)))
                                      replace F_a_from := F_a_from.other W (Or.inr (slot_ne (Or.inr (wd hw 14 rfl)) (Or.inr (wd hw 42 rfl)) (by decide) (t := (.array .int)) (t' := (.array .int)) (by decide) (by decide)))
                                      replace F_a_groupStart := F_a_groupStart.other W (Or.inr (slot_ne (Or.inr (wd hw 16 rfl)) (Or.inr (wd hw 42 rfl)) (by decide) (t := (.array .int)) (t' := (.array .int)) (by decide) (by decide)))
                                      replace F_a_groupWire := F_a_groupWire.other W (Or.inr (slot_ne (Or.inr (wd hw 18 rfl)) (Or.inr (wd hw 42 rfl)) (by decide) (t := (.array .int)) (t' := (.array .int)) (by decide) (by decide)))
                                      replace F_a_connectionGroup := F_a_connectionGroup.other W (Or.inr (slot_ne (Or.inr (wd hw 20 rfl)) (Or.inr (wd hw 42 rfl)) (by decide) (t := (.array .int)) (t' := (.array .int)) (by decide) (by decide)))
                                      replace F_a_incomingStart := F_a_incomingStart.other W (Or.inr (slot_ne (Or.inr (wd hw 22 rfl)) (Or.inr (wd hw 42 rfl)) (by decide) (t := (.array .int)) (t' := (.array .int)) (by decide) (by decide)))
                                      replace F_a_outgoingStart := F_a_outgoingStart.other W (Or.inr (slot_ne (Or.inr (wd hw 28 rfl)) (Or.inr (wd hw 42 rfl)) (by decide) (t := (.array .int)) (t' := (.array .int)) (by decide) (by decide)))
                                      replace F_a_outgoing := F_a_outgoing.same W
                                      replace F_a_incoming := F_a_incoming.other W (Or.inr (slot_ne (Or.inr (wd hw 44 rfl)) (Or.inr (wd hw 42 rfl)) (by decide) (t := (.array .int)) (t' := (.array .int)) (by decide) (by decide)))
                                      replace V_f := V_f.other W ne_f_a
                                      replace V_gs := V_gs.other W ne_gs_a
                                      replace V_gw := V_gw.other W ne_gw_a
                                      replace E_cg := E_cg.wr W
                                      replace V_is := V_is.other W (Ne.symm ne_a_is)
                                      replace E_is := E_is.wr W
                                      replace V_cg := V_cg.other W (Ne.symm ne_a_cg)
                                      replace E_os := E_os.wr W
                                      replace V_og := V_og.other W (Ne.symm ne_a_og)
                                      replace V_os := V_os.other W (Ne.symm ne_a_os)
                                      replace N := Fr.snoc X N g_a
                                      refine Go.aloadN C X d1_272 (n := 273) rfl rfl rfl ?_
                                      refine Go.aload C X d1_273 (n := 275) rfl rfl rfl ?_
                                      refine Go.aloadN C X d1_275 (n := 276) rfl rfl rfl ?_
                                      refine Go.getF C X eT (wd hw 21 rfl) Via.refl F_a_incomingStart d1_276 (n := 279) rfl ?_
                                      clear X eT
                                      intro T X eT
                                      rw [show bump (bump (bump ([0, 0, 0, 0]) (k0 + 1)) (k1 + 1)) (k2 + 1) = [y0, y1, y2, y3] from hy] at V_is
                                      refine Go.stat C X eT (argsL := [(.ref gw), (.ref is)]) (rest := [(.ref a)]) (rm4 l Z a0 hw n0 _ gw is [k0, k1, k2] y0 y1 y2 y3 res (by simp) g_is ne_gw_is O E_is V_gw V_is hres) (wd hw 29 rfl) (wd hw 30 rfl) (wd hw 4 rfl) (wd hw 31 rfl) (by decide) (lenOf pd_1 rfl) rfl d1_279 (n := 282) rfl rfl (by decide) (W := 1) rfl (by decide) (by decide) (by decide) ?_
                                      clear X eT
                                      intro T h v L X eT hQ
                                      obtain ⟨inc, rfl, Nq, KK, s_inc, V_inc, V_is⟩ := hQ
                                      replace N := N.app Nq
                                      have ne_a_inc : a ≠ inc := Nat.ne_of_lt (Nat.lt_of_lt_of_le E_a.lt s_inc)
                                      have ne_f_inc : f ≠ inc := Nat.ne_of_lt (Nat.lt_of_lt_of_le V_f.lt s_inc)
                                      have ne_gs_inc : gs ≠ inc := Nat.ne_of_lt (Nat.lt_of_lt_of_le V_gs.lt s_inc)
                                      have ne_gw_inc : gw ≠ inc := Nat.ne_of_lt (Nat.lt_of_lt_of_le V_gw.lt s_inc)
                                      have ne_cg_inc : cg ≠ inc := Nat.ne_of_lt (Nat.lt_of_lt_of_le E_cg.lt s_inc)
                                      have ne_is_inc : is ≠ inc := Nat.ne_of_lt (Nat.lt_of_lt_of_le E_is.lt s_inc)
                                      have ne_os_inc : os ≠ inc := Nat.ne_of_lt (Nat.lt_of_lt_of_le E_os.lt s_inc)
                                      have ne_og_inc : og ≠ inc := Nat.ne_of_lt (Nat.lt_of_lt_of_le V_og.lt s_inc)
                                      have g_inc : n0 ≤ inc := Nat.le_trans O.le s_inc
                                      have sz_inc : h0.size ≤ inc := Nat.le_trans KP.1 s_inc
                                      replace E_a := E_a.keep KK
                                      replace O := O.keep KK (allS g_is all0)
                                      replace KP := KP.trans KK (allS (Or.inr s_is) all0)
                                      replace F_a_wireCount := F_a_wireCount.keep KK (ninS ne_a_is nin0)
                                      replace F_a_from := F_a_from.keep KK (ninS ne_a_is nin0)
                                      replace F_a_groupStart := F_a_groupStart.keep KK (ninS ne_a_is nin0)
                                      replace F_a_groupWire := F_a_groupWire.keep KK (ninS ne_a_is nin0)
                                      replace F_a_connectionGroup := F_a_connectionGroup.keep KK (ninS ne_a_is nin0)
                                      replace F_a_incomingStart := F_a_incomingStart.keep KK (ninS ne_a_is nin0)
                                      replace F_a_outgoingStart := F_a_outgoingStart.keep KK (ninS ne_a_is nin0)
                                      replace F_a_outgoing := F_a_outgoing.keep KK (ninS ne_a_is nin0)
                                      replace F_a_incoming := F_a_incoming.keep KK (ninS ne_a_is nin0)
                                      replace V_f := V_f.keep KK (ninS ne_f_is nin0)
                                      replace V_gs := V_gs.keep KK (ninS ne_gs_is nin0)
                                      replace V_gw := V_gw.keep KK (ninS ne_gw_is nin0)
                                      replace E_cg := E_cg.keep KK
                                      replace E_is := E_is.keep KK
                                      replace V_cg := V_cg.keep KK (ninS ne_cg_is nin0)
                                      replace E_os := E_os.keep KK
                                      replace V_og := V_og.keep KK (ninS (Ne.symm ne_is_og) nin0)
                                      replace V_os := V_os.keep KK (ninS (Ne.symm ne_is_os) nin0)
                                      show Go p e below _ (T.setTop (mkF m 282 #[.val (.ref a), .val (.int (3 : Int32)), .val (.ref f), .val (.ref gs), .val (.ref gw), .val (.int (6 : Int32)), .val (.int (Int32.ofNat 6))] [(.ref inc), (.ref a)]))
                                      refine Go.putF C X eT (wd hw 43 rfl) Via.refl F_a_incoming E_a (Or.inr ⟨(wd hw 44 rfl), rfl, rfl⟩) (wd hw 3 rfl) (ty := (.array .int)) (by decide) rfl rfl d1_282 (n := 285) rfl ?_
                                      clear X eT
                                      intro T h X eT W
                                      replace E_a := E_a.wr W
                                      replace O := O.wr W g_a
                                      replace KP := KP.wr W (Or.inl (List.mem_of_getElem? (i := 0) rfl))
                                      replace F_a_wireCount := F_a_wireCount.other W (Or.inr (slot_ne (Or.inr (wd hw 12 rfl)) (Or.inr (wd hw 44 rfl)) (by decide) (t := .int) (t' := (.array .int)) (by decide) (by decide)))
                                      replace F_a_from := F_a_from.other W (Or.inr (slot_ne (Or.inr (wd hw 14 rfl)) (Or.inr (wd hw 44 rfl)) (by decide) (t := (.array .int)) (t' := (.array .int)) (by decide) (by decide)))
                                      replace F_a_groupStart := F_a_groupStart.other W (Or.inr (slot_ne (Or.inr (wd hw 16 rfl)) (Or.inr (wd hw 44 rfl)) (by decide) (t := (.array .int)) (t' := (.array .int)) (by decide) (by decide)))
                                      replace F_a_groupWire := F_a_groupWire.other W (Or.inr (slot_ne (Or.inr (wd hw 18 rfl)) (Or.inr (wd hw 44 rfl)) (by decide) (t := (.array .int)) (t' := (.array .int)) (by decide) (by decide)))
                                      replace F_a_connectionGroup := F_a_connectionGroup.other W (Or.inr (slot_ne (Or.inr (wd hw 20 rfl)) (Or.inr (wd hw 44 rfl)) (by decide) (t := (.array .int)) (t' := (.array .int)) (by decide) (by decide)))
                                      replace F_a_incomingStart := F_a_incomingStart.other W (Or.inr (slot_ne (Or.inr (wd hw 22 rfl)) (Or.inr (wd hw 44 rfl)) (by decide) (t := (.array .int)) (t' := (.array .int)) (by decide) (by decide)))
                                      replace F_a_outgoingStart := F_a_outgoingStart.other W (Or.inr (slot_ne (Or.inr (wd hw 28 rfl)) (Or.inr (wd hw 44 rfl)) (by decide) (t := (.array .int)) (t' := (.array .int)) (by decide) (by decide)))
                                      replace F_a_outgoing := F_a_outgoing.other W (Or.inr (slot_ne (Or.inr (wd hw 42 rfl)) (Or.inr (wd hw 44 rfl)) (by decide) (t := (.array .int)) (t' := (.array .int)) (by decide) (by decide)))
                                      replace F_a_incoming := F_a_incoming.same W
                                      replace V_f := V_f.other W ne_f_a
                                      replace V_gs := V_gs.other W ne_gs_a
                                      replace V_gw := V_gw.other W ne_gw_a
                                      replace E_cg := E_cg.wr W
                                      replace E_is := E_is.wr W
                                      replace V_cg := V_cg.other W (Ne.symm ne_a_cg)
                                      replace E_os := E_os.wr W
                                      replace V_og := V_og.other W (Ne.symm ne_a_og)
                                      replace V_os := V_os.other W (Ne.symm ne_a_os)
                                      replace V_inc := V_inc.other W (Ne.symm ne_a_inc)
                                      replace V_is := V_is.other W (Ne.symm ne_a_is)
                                      replace N := Fr.snoc X N g_a
                                      refine Go.ret0 C X eT d1_285 (by decide) (by decide) ?_
                                      exact ⟨rfl, N, KP, E_a, is, inc, F_a_incomingStart, F_a_groupStart, F_a_incoming, V_is, V_inc⟩
                                    · exact absurd hc226 (by decide)
                      · exact absurd hc112 (by decide)
                    · exact absurd ((own_lt (a := n2) (b := 6) (by omega) (by omega)).mpr (by omega)) hc125
                · exact absurd ((own_lt (a := n1) (b := n2) (by omega) (by omega)).mpr (by omega)) hc125
            · exact absurd ((own_lt (a := 0) (b := n1) (by omega) (by omega)).mpr (by omega)) hc125
        · exact absurd hc45 (by decide)
  · exact absurd hc5 (by decide)
theorem own_atI {xs : List Int32} {k : Nat} (hk : k < xs.length) : (xs.map Value.int)[k]? = some (.int (xs.getD k 0)) := by simp [List.getD_eq_getElem?_getD, hk]
set_option maxRecDepth 65536 in
set_option maxHeartbeats 40000000 in
theorem loop5 {p : Program} {l : Launch} {e : Env} {R : Room} {s : State} {m : MethodId} {args : Array Value} {below : List Frame} {meth : Method} {c : Code} {Z : State} {a0 : Array Value} {h0 : Heap} {a is gs inc : Addr} {kw qe : Nat} {gsl : List Int32} {inc' : List Nat} {vsi : List Value} (hkw : kw < 3) (hqe : qe ≤ inc'.length) (hi3 : inc'.length ≤ 3) (hgl : gsl.length = 4) (hin : ∀ q, q < inc'.length → inc'.getD q 0 + 1 < 4) (he : vsi[kw + 1]? = some (.int (Int32.ofNat qe))) (hw : ∀ d ∈ tables_1, d.before a0 Z = true) (k : Nat) : ∀ (q : Nat) (acc : Int32) {T : State} {locs : List Loc} {h : Heap}, q + k = qe →
    Cx p s m meth c Z "com/example/routes_to_timing/routestotiming/fabric/RoutingGraph" prog_23_method_20_code 4 (some .int) "incomingCount" → Stand p l e R s m args below meth c T locs 0 0 → T.heap = h → Fld Z h a "com/example/routes_to_timing/routestotiming/fabric/RoutingGraph" "incomingStart" "[I" (.ref is) → Arl Z h is .int vsi → Fld Z h a "com/example/routes_to_timing/routestotiming/fabric/RoutingGraph" "groupStart" "[I" (.ref gs) → Arl Z h gs .int (gsl.map .int) → Fld Z h a "com/example/routes_to_timing/routestotiming/fabric/RoutingGraph" "incoming" "[I" (.ref inc) → Arl Z h inc .int (inc'.map nI) → locs = [] → h = h0 →
    Go p e below (EndQ s (fun v h L => v = some (.int (sumI gsl inc' k q acc)) ∧ L = [] ∧ h = h0) 0 0) (T.setTop (mkF m 9 #[.val (.ref a), .val (.int (Int32.ofNat kw)), .val (.int acc), .val (.int (Int32.ofNat q))] [])) := by
  induction k with
  | zero =>
    intro q acc T locs h hk C X eT F_is V_is F_gs V_gs F_inc V_inc hL hh
    show Go p e below (EndQ s (fun v h L => v = some (.int (sumI gsl inc' 0 q acc)) ∧ L = [] ∧ h = h0) 0 0) _
    show Go p e below _ (T.setTop (mkF m 9 #[.val (.ref a), .val (.int (Int32.ofNat kw)), .val (.int acc), .val (.int (Int32.ofNat q))] []))
    refine Go.iloadN C X d5_9 (n := 10) rfl rfl ?_
    refine Go.aloadN C X d5_10 (n := 11) rfl rfl rfl ?_
    refine Go.getF C X eT (wd hw 21 rfl) Via.refl F_is d5_11 (n := 14) rfl ?_
    clear X eT
    intro T X eT
    refine Go.iloadN C X d5_14 (n := 15) rfl rfl ?_
    refine Go.iconst C X d5_15 (n := 16) rfl (v := (1 : Int32)) rfl ?_
    refine Go.iadd C X d5_16 (n := 17) rfl ?_
    rw [own_sucI]
    show Go p e below _ (T.setTop (mkF m 17 #[.val (.ref a), .val (.int (Int32.ofNat kw)), .val (.int acc), .val (.int (Int32.ofNat q))] [(.int (Int32.ofNat (kw + 1))), (.ref is), (.int (Int32.ofNat q))]))
    refine Go.ialoadL C X eT V_is (i := (kw + 1)) (own_toI (by omega)) (v := .int (Int32.ofNat qe)) he d5_17 (n := 18) rfl ?_
    refine Go.icmp_ge C X d5_18 (n1 := 55) (n2 := 21) (by decide) (by decide) rfl (fun hc18 => ?_) (fun hc18 => ?_)
    · refine Go.iloadN C X d5_55 (n := 56) rfl rfl ?_
      refine Go.retI C X eT d5_56 (by decide) (by decide) ?_
      exact ⟨rfl, hL, hh⟩
    · exact absurd ((own_lt (by omega) (by omega)).mp hc18) (by omega)
  | succ k ih =>
    intro q acc T locs h hk C X eT F_is V_is F_gs V_gs F_inc V_inc hL hh
    show Go p e below (EndQ s (fun v h L => v = some (.int (sumI gsl inc' k (q + 1) (acc + (gsl.getD (inc'.getD q 0 + 1) 0 - gsl.getD (inc'.getD q 0) 0)))) ∧ L = [] ∧ h = h0) 0 0) _
    have hj := hin q (by omega)
    show Go p e below _ (T.setTop (mkF m 9 #[.val (.ref a), .val (.int (Int32.ofNat kw)), .val (.int acc), .val (.int (Int32.ofNat q))] []))
    refine Go.iloadN C X d5_9 (n := 10) rfl rfl ?_
    refine Go.aloadN C X d5_10 (n := 11) rfl rfl rfl ?_
    refine Go.getF C X eT (wd hw 21 rfl) Via.refl F_is d5_11 (n := 14) rfl ?_
    clear X eT
    intro T X eT
    refine Go.iloadN C X d5_14 (n := 15) rfl rfl ?_
    refine Go.iconst C X d5_15 (n := 16) rfl (v := (1 : Int32)) rfl ?_
    refine Go.iadd C X d5_16 (n := 17) rfl ?_
    rw [own_sucI]
    show Go p e below _ (T.setTop (mkF m 17 #[.val (.ref a), .val (.int (Int32.ofNat kw)), .val (.int acc), .val (.int (Int32.ofNat q))] [(.int (Int32.ofNat (kw + 1))), (.ref is), (.int (Int32.ofNat q))]))
    refine Go.ialoadL C X eT V_is (i := (kw + 1)) (own_toI (by omega)) (v := .int (Int32.ofNat qe)) he d5_17 (n := 18) rfl ?_
    refine Go.icmp_ge C X d5_18 (n1 := 55) (n2 := 21) (by decide) (by decide) rfl (fun hc18 => ?_) (fun hc18 => ?_)
    · exact absurd ((own_lt (by omega) (by omega)).mpr (by omega)) hc18
    · refine Go.iloadN C X d5_21 (n := 22) rfl rfl ?_
      refine Go.aloadN C X d5_22 (n := 23) rfl rfl rfl ?_
      refine Go.getF C X eT (wd hw 15 rfl) Via.refl F_gs d5_23 (n := 26) rfl ?_
      clear X eT
      intro T X eT
      refine Go.aloadN C X d5_26 (n := 27) rfl rfl rfl ?_
      refine Go.getF C X eT (wd hw 43 rfl) Via.refl F_inc d5_27 (n := 30) rfl ?_
      clear X eT
      intro T X eT
      refine Go.iloadN C X d5_30 (n := 31) rfl rfl ?_
      refine Go.ialoadL C X eT V_inc (i := q) (own_toI (by omega)) (v := .int (Int32.ofNat (inc'.getD q 0))) (own_nat _ (by omega)) d5_31 (n := 32) rfl ?_
      refine Go.iconst C X d5_32 (n := 33) rfl (v := (1 : Int32)) rfl ?_
      refine Go.iadd C X d5_33 (n := 34) rfl ?_
      rw [own_sucI]
      show Go p e below _ (T.setTop (mkF m 34 #[.val (.ref a), .val (.int (Int32.ofNat kw)), .val (.int acc), .val (.int (Int32.ofNat q))] [(.int (Int32.ofNat ((inc'.getD q 0) + 1))), (.ref gs), (.int acc)]))
      refine Go.ialoadL C X eT V_gs (i := ((inc'.getD q 0) + 1)) (own_toI (by omega)) (v := .int (gsl.getD ((inc'.getD q 0) + 1) 0)) (own_atI (by omega)) d5_34 (n := 35) rfl ?_
      refine Go.aloadN C X d5_35 (n := 36) rfl rfl rfl ?_
      refine Go.getF C X eT (wd hw 15 rfl) Via.refl F_gs d5_36 (n := 39) rfl ?_
      clear X eT
      intro T X eT
      refine Go.aloadN C X d5_39 (n := 40) rfl rfl rfl ?_
      refine Go.getF C X eT (wd hw 43 rfl) Via.refl F_inc d5_40 (n := 43) rfl ?_
      clear X eT
      intro T X eT
      refine Go.iloadN C X d5_43 (n := 44) rfl rfl ?_
      refine Go.ialoadL C X eT V_inc (i := q) (own_toI (by omega)) (v := .int (Int32.ofNat (inc'.getD q 0))) (own_nat _ (by omega)) d5_44 (n := 45) rfl ?_
      refine Go.ialoadL C X eT V_gs (i := (inc'.getD q 0)) (own_toI (by omega)) (v := .int (gsl.getD (inc'.getD q 0) 0)) (own_atI (by omega)) d5_45 (n := 46) rfl ?_
      refine Go.isub C X d5_46 (n := 47) rfl ?_
      refine Go.iadd C X d5_47 (n := 48) rfl ?_
      refine Go.istoreN C X d5_48 (n := 49) rfl (l' := #[.val (.ref a), .val (.int (Int32.ofNat kw)), .val (.int (acc + ((gsl.getD ((inc'.getD q 0) + 1) 0) - (gsl.getD (inc'.getD q 0) 0)))), .val (.int (Int32.ofNat q))]) rfl ?_
      refine Go.iinc C X d5_49 (n := 52) rfl (v := (1 : Int32)) rfl rfl (l' := #[.val (.ref a), .val (.int (Int32.ofNat kw)), .val (.int (acc + ((gsl.getD ((inc'.getD q 0) + 1) 0) - (gsl.getD (inc'.getD q 0) 0)))), .val (.int ((Int32.ofNat q) + (1 : Int32)))]) rfl ?_
      refine Go.goto C X d5_52 (n := 9) (by decide) (by decide) ?_
      rw [own_sucI]
      exact ih (q + 1) _ (by omega) C X eT F_is V_is F_gs V_gs F_inc V_inc hL hh
set_option maxRecDepth 65536 in
set_option maxHeartbeats 40000000 in
theorem rm5 (l : Launch) (Z : State) (a0 : Array Value) (hw : ∀ d ∈ tables_1, d.before a0 Z = true) (n0 : Nat) (h0 : Heap) (a is gs inc : Addr) (kw qs qe : Nat) (gsl : List Int32) (inc' : List Nat) (vsi : List Value) (hkw : kw < 3) (hle : qs ≤ qe) (hqe : qe ≤ inc'.length) (hi3 : inc'.length ≤ 3) (hgl : gsl.length = 4) (hin : ∀ q, q < inc'.length → inc'.getD q 0 + 1 < 4) (hs : vsi[kw]? = some (.int (Int32.ofNat qs))) (he : vsi[kw + 1]? = some (.int (Int32.ofNat qe))) (F_is : Fld Z h0 a "com/example/routes_to_timing/routestotiming/fabric/RoutingGraph" "incomingStart" "[I" (.ref is)) (V_is : Arl Z h0 is .int vsi) (F_gs : Fld Z h0 a "com/example/routes_to_timing/routestotiming/fabric/RoutingGraph" "groupStart" "[I" (.ref gs)) (V_gs : Arl Z h0 gs .int (gsl.map .int)) (F_inc : Fld Z h0 a "com/example/routes_to_timing/routestotiming/fabric/RoutingGraph" "incoming" "[I" (.ref inc)) (V_inc : Arl Z h0 inc .int (inc'.map nI)) :
    Ctr l Z (⟨"com/example/routes_to_timing/routestotiming/fabric/RoutingGraph", "incomingCount", "(I)I"⟩ : MethodName) prog_23_method_20_code 4 (some .int) ({ frames := 0, cells := 0, slots := 0, locals := 0 } : Room) #[(.ref a), (.int (Int32.ofNat kw))] h0 (fun v h L => v = some (.int (sumI gsl inc' (qe - qs) qs 0)) ∧ L = [] ∧ h = h0) := by
  refine Ctr.mk (plainFor_of_name pn_0) (ls := #[.val (.ref a), .val (.int (Int32.ofNat kw)), .unset, .unset]) (fun m => by first | (simp [entryFrame, mkF, argsToLocals, Value.category]; done) | rfl) ?_
  intro p e s m below meth c T C X eT hs0
  have N := Fr.nil n0
  show Go p e below _ (T.setTop (mkF m 0 #[.val (.ref a), .val (.int (Int32.ofNat kw)), .unset, .unset] []))
  refine Go.iconst C X d5_0 (n := 1) rfl (v := (0 : Int32)) rfl ?_
  refine Go.istoreN C X d5_1 (n := 2) rfl (l' := #[.val (.ref a), .val (.int (Int32.ofNat kw)), .val (.int (0 : Int32)), .unset]) rfl ?_
  refine Go.aloadN C X d5_2 (n := 3) rfl rfl rfl ?_
  refine Go.getF C X eT (wd hw 21 rfl) Via.refl F_is d5_3 (n := 6) rfl ?_
  clear X eT
  intro T X eT
  refine Go.iloadN C X d5_6 (n := 7) rfl rfl ?_
  refine Go.ialoadL C X eT V_is (i := kw) (own_toI (by omega)) (v := .int (Int32.ofNat qs)) hs d5_7 (n := 8) rfl ?_
  refine Go.istoreN C X d5_8 (n := 9) rfl (l' := #[.val (.ref a), .val (.int (Int32.ofNat kw)), .val (.int (0 : Int32)), .val (.int (Int32.ofNat qs))]) rfl ?_
  exact loop5 hkw hqe hi3 hgl hin he hw (qe - qs) qs 0 (by omega) C X eT F_is V_is F_gs V_gs F_inc V_inc rfl rfl
theorem pd_2 : parseMethodDescriptor "(I[I[I[I)V" = some ⟨[.int, (.array .int), (.array .int), (.array .int)], none⟩ := by decide +kernel
theorem pd_3 : parseMethodDescriptor "(I)I" = some ⟨[.int], some .int⟩ := by decide +kernel
theorem own_list4 {xs : List Nat} (h : xs.length = 4) : ∃ a b c d, xs = [a, b, c, d] := by match xs, h with | [a, b, c, d], _ => exact ⟨a, b, c, d, rfl⟩
theorem own_lt3 (r0 r1 r2 : Fin 3) : ∀ q, q < [r0.1, r1.1, r2.1].length → [r0.1, r1.1, r2.1].getD q 0 + 1 < 4 := by
  intro q hq
  have h0 := r0.2; have h1 := r1.2; have h2 := r2.2
  match q, hq with
  | 0, _ => show r0.1 + 1 < 4; omega
  | 1, _ => show r1.1 + 1 < 4; omega
  | 2, _ => show r2.1 + 1 < 4; omega
  | q + 3, hq => simp at hq; omega
set_option maxRecDepth 65536 in
set_option maxHeartbeats 40000000 in
theorem seg60 {p : Program} {l : Launch} {e : Env} {s : State} {m : MethodId} {args : Array Value} {below : List Frame} {meth : Method} {c : Code} {Z : State} {a0 : Array Value} {T : State} {h : Heap} {n0 : Nat} {locs : List Loc} (hw : ∀ d ∈ tables_1, d.before a0 Z = true) (C : Cx p s m meth c Z x.cls code maxLocals ret x.name) (X : Stand p l e room_1 s m args below meth c T locs 0 0) (eT : T.heap = h) (O : Old Z n0 h) (N : Fr n0 locs) {p0 p1 p2 p3 p4 p5 : Int32} {n1 n2 k0 k1 k2 kw : Nat} (hn0 : 0 < n1) (hn1 : n1 < n2) (hn2 : n2 < 6) (hk0 : k0 < 3) (hk1 : k1 < 3) (hk2 : k2 < 3) (hkw : kw < 3) :
    Go p e below (EndQ s (fun v h L => v = some (.int 1) ∧ Fr n0 L) room_1.cells room_1.slots) (T.setTop (mkF m 60 #[.val (.int p0), .val (.int p1), .val (.int p2), .val (.int p3), .val (.int p4), .val (.int p5), .val (.int (Int32.ofNat n1)), .val (.int (Int32.ofNat n2)), .val (.int (Int32.ofNat k0)), .val (.int (Int32.ofNat k1)), .val (.int (Int32.ofNat k2)), .val (.int (Int32.ofNat kw)), .unset, .unset, .unset, .unset, .unset] [])) := by
  show Go p e below _ (T.setTop (mkF m 60 #[.val (.int p0), .val (.int p1), .val (.int p2), .val (.int p3), .val (.int p4), .val (.int p5), .val (.int (Int32.ofNat n1)), .val (.int (Int32.ofNat n2)), .val (.int (Int32.ofNat k0)), .val (.int (Int32.ofNat k1)), .val (.int (Int32.ofNat k2)), .val (.int (Int32.ofNat kw)), .unset, .unset, .unset, .unset, .unset] []))
  refine Go.bipush C X at_60 (n := 62) rfl (v := (6 : Int32)) rfl ?_
  refine Go.newL C X eT (wd hw 1 rfl) (i := 6) rfl (cap := 6) (by decide) at_62 (n := 64) rfl (by decide) (by decide) (by decide) ?_
  clear X eT
  intro T h f z_f X eT E V_f
  have g_f : n0 ≤ f := by rw [z_f]; exact O.le
  replace O := O.ext E
  replace V_f : Arl Z h f .int [.int (0 : Int32), .int (0 : Int32), .int (0 : Int32), .int (0 : Int32), .int (0 : Int32), .int (0 : Int32)] := V_f
  refine Go.astore C X at_64 (n := 66) rfl rfl (l' := #[.val (.int p0), .val (.int p1), .val (.int p2), .val (.int p3), .val (.int p4), .val (.int p5), .val (.int (Int32.ofNat n1)), .val (.int (Int32.ofNat n2)), .val (.int (Int32.ofNat k0)), .val (.int (Int32.ofNat k1)), .val (.int (Int32.ofNat k2)), .val (.int (Int32.ofNat kw)), .val (.ref f), .unset, .unset, .unset, .unset]) rfl ?_
  refine Go.iconst C X at_66 (n := 67) rfl (v := (4 : Int32)) rfl ?_
  refine Go.newL C X eT (wd hw 1 rfl) (i := 4) rfl (cap := 4) (by decide) at_67 (n := 69) rfl (by decide) (by decide) (by decide) ?_
  clear X eT
  intro T h gs z_gs X eT E V_gs
  have ne_f_gs : f ≠ gs := Nat.ne_of_lt (Nat.lt_of_lt_of_le V_f.lt (Nat.le_of_eq z_gs.symm))
  have g_gs : n0 ≤ gs := by rw [z_gs]; exact O.le
  replace O := O.ext E
  replace V_f := V_f.ext E
  replace V_gs : Arl Z h gs .int [.int (0 : Int32), .int (0 : Int32), .int (0 : Int32), .int (0 : Int32)] := V_gs
  refine Go.dup C X at_69 (n := 70) rfl rfl ?_
  refine Go.iconst C X at_70 (n := 71) rfl (v := (0 : Int32)) rfl ?_
  refine Go.iconst C X at_71 (n := 72) rfl (v := (0 : Int32)) rfl ?_
  refine Go.iastoreL C X eT V_gs (i := 0) rfl (by simp) at_72 (n := 73) rfl ?_
  clear X eT
  intro T h X eT W V_new
  replace O := O.wr W g_gs
  replace V_f := V_f.other W ne_f_gs
  clear V_gs
  have V_gs : Arl Z h gs .int [.int (0 : Int32), .int (0 : Int32), .int (0 : Int32), .int (0 : Int32)] := V_new
  clear V_new
  replace N := Fr.snoc X N g_gs
  refine Go.dup C X at_73 (n := 74) rfl rfl ?_
  refine Go.iconst C X at_74 (n := 75) rfl (v := (1 : Int32)) rfl ?_
  refine Go.iload C X at_75 (n := 77) rfl rfl ?_
  refine Go.iastoreL C X eT V_gs (i := 1) rfl (by simp) at_77 (n := 78) rfl ?_
  clear X eT
  intro T h X eT W V_new
  replace O := O.wr W g_gs
  replace V_f := V_f.other W ne_f_gs
  clear V_gs
  have V_gs : Arl Z h gs .int [.int (0 : Int32), .int (Int32.ofNat n1), .int (0 : Int32), .int (0 : Int32)] := V_new
  clear V_new
  replace N := Fr.snoc X N g_gs
  refine Go.dup C X at_78 (n := 79) rfl rfl ?_
  refine Go.iconst C X at_79 (n := 80) rfl (v := (2 : Int32)) rfl ?_
  refine Go.iload C X at_80 (n := 82) rfl rfl ?_
  refine Go.iastoreL C X eT V_gs (i := 2) rfl (by simp) at_82 (n := 83) rfl ?_
  clear X eT
  intro T h X eT W V_new
  replace O := O.wr W g_gs
  replace V_f := V_f.other W ne_f_gs
  clear V_gs
  have V_gs : Arl Z h gs .int [.int (0 : Int32), .int (Int32.ofNat n1), .int (Int32.ofNat n2), .int (0 : Int32)] := V_new
  clear V_new
  replace N := Fr.snoc X N g_gs
  refine Go.dup C X at_83 (n := 84) rfl rfl ?_
  refine Go.iconst C X at_84 (n := 85) rfl (v := (3 : Int32)) rfl ?_
  refine Go.bipush C X at_85 (n := 87) rfl (v := (6 : Int32)) rfl ?_
  refine Go.iastoreL C X eT V_gs (i := 3) rfl (by simp) at_87 (n := 88) rfl ?_
  clear X eT
  intro T h X eT W V_new
  replace O := O.wr W g_gs
  replace V_f := V_f.other W ne_f_gs
  clear V_gs
  have V_gs : Arl Z h gs .int [.int (0 : Int32), .int (Int32.ofNat n1), .int (Int32.ofNat n2), .int (6 : Int32)] := V_new
  clear V_new
  replace N := Fr.snoc X N g_gs
  refine Go.astore C X at_88 (n := 90) rfl rfl (l' := #[.val (.int p0), .val (.int p1), .val (.int p2), .val (.int p3), .val (.int p4), .val (.int p5), .val (.int (Int32.ofNat n1)), .val (.int (Int32.ofNat n2)), .val (.int (Int32.ofNat k0)), .val (.int (Int32.ofNat k1)), .val (.int (Int32.ofNat k2)), .val (.int (Int32.ofNat kw)), .val (.ref f), .val (.ref gs), .unset, .unset, .unset]) rfl ?_
  refine Go.iconst C X at_90 (n := 91) rfl (v := (3 : Int32)) rfl ?_
  refine Go.newL C X eT (wd hw 1 rfl) (i := 3) rfl (cap := 3) (by decide) at_91 (n := 93) rfl (by decide) (by decide) (by decide) ?_
  clear X eT
  intro T h gw z_gw X eT E V_gw
  have ne_f_gw : f ≠ gw := Nat.ne_of_lt (Nat.lt_of_lt_of_le V_f.lt (Nat.le_of_eq z_gw.symm))
  have ne_gs_gw : gs ≠ gw := Nat.ne_of_lt (Nat.lt_of_lt_of_le V_gs.lt (Nat.le_of_eq z_gw.symm))
  have g_gw : n0 ≤ gw := by rw [z_gw]; exact O.le
  replace O := O.ext E
  replace V_f := V_f.ext E
  replace V_gs := V_gs.ext E
  replace V_gw : Arl Z h gw .int [.int (0 : Int32), .int (0 : Int32), .int (0 : Int32)] := V_gw
  refine Go.dup C X at_93 (n := 94) rfl rfl ?_
  refine Go.iconst C X at_94 (n := 95) rfl (v := (0 : Int32)) rfl ?_
  refine Go.iload C X at_95 (n := 97) rfl rfl ?_
  refine Go.iastoreL C X eT V_gw (i := 0) rfl (by simp) at_97 (n := 98) rfl ?_
  clear X eT
  intro T h X eT W V_new
  replace O := O.wr W g_gw
  replace V_f := V_f.other W ne_f_gw
  replace V_gs := V_gs.other W ne_gs_gw
  clear V_gw
  have V_gw : Arl Z h gw .int [.int (Int32.ofNat k0), .int (0 : Int32), .int (0 : Int32)] := V_new
  clear V_new
  replace N := Fr.snoc X N g_gw
  refine Go.dup C X at_98 (n := 99) rfl rfl ?_
  refine Go.iconst C X at_99 (n := 100) rfl (v := (1 : Int32)) rfl ?_
  refine Go.iload C X at_100 (n := 102) rfl rfl ?_
  refine Go.iastoreL C X eT V_gw (i := 1) rfl (by simp) at_102 (n := 103) rfl ?_
  clear X eT
  intro T h X eT W V_new
  replace O := O.wr W g_gw
  replace V_f := V_f.other W ne_f_gw
  replace V_gs := V_gs.other W ne_gs_gw
  clear V_gw
  have V_gw : Arl Z h gw .int [.int (Int32.ofNat k0), .int (Int32.ofNat k1), .int (0 : Int32)] := V_new
  clear V_new
  replace N := Fr.snoc X N g_gw
  refine Go.dup C X at_103 (n := 104) rfl rfl ?_
  refine Go.iconst C X at_104 (n := 105) rfl (v := (2 : Int32)) rfl ?_
  refine Go.iload C X at_105 (n := 107) rfl rfl ?_
  refine Go.iastoreL C X eT V_gw (i := 2) rfl (by simp) at_107 (n := 108) rfl ?_
  clear X eT
  intro T h X eT W V_new
  replace O := O.wr W g_gw
  replace V_f := V_f.other W ne_f_gw
  replace V_gs := V_gs.other W ne_gs_gw
  clear V_gw
  have V_gw : Arl Z h gw .int [.int (Int32.ofNat k0), .int (Int32.ofNat k1), .int (Int32.ofNat k2)] := V_new
  clear V_new
  replace N := Fr.snoc X N g_gw
  refine Go.astore C X at_108 (n := 110) rfl rfl (l' := #[.val (.int p0), .val (.int p1), .val (.int p2), .val (.int p3), .val (.int p4), .val (.int p5), .val (.int (Int32.ofNat n1)), .val (.int (Int32.ofNat n2)), .val (.int (Int32.ofNat k0)), .val (.int (Int32.ofNat k1)), .val (.int (Int32.ofNat k2)), .val (.int (Int32.ofNat kw)), .val (.ref f), .val (.ref gs), .val (.ref gw), .unset, .unset]) rfl ?_
  refine Go.newO C X eT (wd hw 2 rfl) (wd hw 3 rfl) (wd hw 4 rfl) at_110 (n := 113) rfl (by decide) (by decide) ?_
  clear X eT
  intro T h a z_a X eT E E_a D_
  have ne_f_a : f ≠ a := Nat.ne_of_lt (Nat.lt_of_lt_of_le V_f.lt (Nat.le_of_eq z_a.symm))
  have ne_gs_a : gs ≠ a := Nat.ne_of_lt (Nat.lt_of_lt_of_le V_gs.lt (Nat.le_of_eq z_a.symm))
  have ne_gw_a : gw ≠ a := Nat.ne_of_lt (Nat.lt_of_lt_of_le V_gw.lt (Nat.le_of_eq z_a.symm))
  have g_a : n0 ≤ a := by rw [z_a]; exact O.le
  replace O := O.ext E
  replace V_f := V_f.ext E
  replace V_gs := V_gs.ext E
  replace V_gw := V_gw.ext E
  have F_a_wireCount : Fld Z h a "com/example/routes_to_timing/routestotiming/fabric/RoutingGraph" "wireCount" "I" (.int (0 : Int32)) := D_ (Or.inr (wd hw 12 rfl)) (ty := .int) (by decide)
  have F_a_from : Fld Z h a "com/example/routes_to_timing/routestotiming/fabric/RoutingGraph" "from" "[I" .null := D_ (Or.inr (wd hw 14 rfl)) (ty := (.array .int)) (by decide)
  have F_a_groupStart : Fld Z h a "com/example/routes_to_timing/routestotiming/fabric/RoutingGraph" "groupStart" "[I" .null := D_ (Or.inr (wd hw 16 rfl)) (ty := (.array .int)) (by decide)
  have F_a_groupWire : Fld Z h a "com/example/routes_to_timing/routestotiming/fabric/RoutingGraph" "groupWire" "[I" .null := D_ (Or.inr (wd hw 18 rfl)) (ty := (.array .int)) (by decide)
  have F_a_connectionGroup : Fld Z h a "com/example/routes_to_timing/routestotiming/fabric/RoutingGraph" "connectionGroup" "[I" .null := D_ (Or.inr (wd hw 20 rfl)) (ty := (.array .int)) (by decide)
  have F_a_incomingStart : Fld Z h a "com/example/routes_to_timing/routestotiming/fabric/RoutingGraph" "incomingStart" "[I" .null := D_ (Or.inr (wd hw 22 rfl)) (ty := (.array .int)) (by decide)
  have F_a_outgoingStart : Fld Z h a "com/example/routes_to_timing/routestotiming/fabric/RoutingGraph" "outgoingStart" "[I" .null := D_ (Or.inr (wd hw 28 rfl)) (ty := (.array .int)) (by decide)
  have F_a_outgoing : Fld Z h a "com/example/routes_to_timing/routestotiming/fabric/RoutingGraph" "outgoing" "[I" .null := D_ (Or.inr (wd hw 42 rfl)) (ty := (.array .int)) (by decide)
  have F_a_incoming : Fld Z h a "com/example/routes_to_timing/routestotiming/fabric/RoutingGraph" "incoming" "[I" .null := D_ (Or.inr (wd hw 44 rfl)) (ty := (.array .int)) (by decide)
  refine Go.dup C X at_113 (n := 114) rfl rfl ?_
  refine Go.iconst C X at_114 (n := 115) rfl (v := (3 : Int32)) rfl ?_
  refine Go.aload C X at_115 (n := 117) rfl rfl rfl ?_
  refine Go.aload C X at_117 (n := 119) rfl rfl rfl ?_
  refine Go.aload C X at_119 (n := 121) rfl rfl rfl ?_
  obtain ⟨r0, r1, r2, hpl⟩ := own_place ⟨k0, hk0⟩ ⟨k1, hk1⟩ ⟨k2, hk2⟩
  obtain ⟨y0, y1, y2, y3, hy⟩ := own_list4 (show (incS k0 k1 k2).length = 4 by simp [incS, own_bump_len])
  have hres := hpl
  simp only [hy] at hres
  refine Go.spec C X eT (argsL := [(.int (3 : Int32)), (.ref f), (.ref gs), (.ref gw)]) (rest := [(.ref a)]) (a := a) (rm1 l Z a0 hw n0 _ a f gs gw k0 k1 k2 n1 n2 y0 y1 y2 y3 [r0.1, r1.1, r2.1] hk0 hk1 hk2 hn0 hn1 hn2 ne_f_a ne_gs_a ne_gw_a g_a O E_a F_a_wireCount F_a_from F_a_groupStart F_a_groupWire F_a_connectionGroup F_a_incomingStart F_a_outgoingStart F_a_outgoing F_a_incoming V_f V_gs V_gw hy hres) rfl (wd hw 5 rfl) (wd hw 6 rfl) (wd hw 4 rfl) (wd hw 7 rfl) (by decide) (lenOf pd_2 rfl) rfl at_121 (n := 124) rfl rfl (by decide) (W := 1) rfl (by decide) (by decide) (by decide) ?_
  clear X eT
  intro T h v L X eT hQ
  obtain ⟨rfl, Nq, KK, E_a, is, inc, F_is, F_gs, F_inc, V_is, V_inc⟩ := hQ
  replace N := N.app Nq
  replace O := O.keep KK (allS g_a all0)
  replace V_f := V_f.keep KK (ninS ne_f_a nin0)
  replace V_gs := V_gs.keep KK (ninS ne_gs_a nin0)
  replace V_gw := V_gw.keep KK (ninS ne_gw_a nin0)
  show Go p e below _ (T.setTop (mkF m 124 #[.val (.int p0), .val (.int p1), .val (.int p2), .val (.int p3), .val (.int p4), .val (.int p5), .val (.int (Int32.ofNat n1)), .val (.int (Int32.ofNat n2)), .val (.int (Int32.ofNat k0)), .val (.int (Int32.ofNat k1)), .val (.int (Int32.ofNat k2)), .val (.int (Int32.ofNat kw)), .val (.ref f), .val (.ref gs), .val (.ref gw), .unset, .unset] [(.ref a)]))
  rw [show [y0, y1 + y0, y2 + (y1 + y0), y3 + (y2 + (y1 + y0))] = psum (incS k0 k1 k2) by rw [hy]; rfl] at V_is
  refine Go.astore C X at_124 (n := 126) rfl rfl (l' := #[.val (.int p0), .val (.int p1), .val (.int p2), .val (.int p3), .val (.int p4), .val (.int p5), .val (.int (Int32.ofNat n1)), .val (.int (Int32.ofNat n2)), .val (.int (Int32.ofNat k0)), .val (.int (Int32.ofNat k1)), .val (.int (Int32.ofNat k2)), .val (.int (Int32.ofNat kw)), .val (.ref f), .val (.ref gs), .val (.ref gw), .val (.ref a), .unset]) rfl ?_
  refine Go.iconst C X at_126 (n := 127) rfl (v := (0 : Int32)) rfl ?_
  refine Go.istore C X at_127 (n := 129) rfl (l' := #[.val (.int p0), .val (.int p1), .val (.int p2), .val (.int p3), .val (.int p4), .val (.int p5), .val (.int (Int32.ofNat n1)), .val (.int (Int32.ofNat n2)), .val (.int (Int32.ofNat k0)), .val (.int (Int32.ofNat k1)), .val (.int (Int32.ofNat k2)), .val (.int (Int32.ofNat kw)), .val (.ref f), .val (.ref gs), .val (.ref gw), .val (.ref a), .val (.int (0 : Int32))]) rfl ?_
  refine Go.iload C X at_129 (n := 131) rfl rfl ?_
  refine Go.iload C X at_131 (n := 133) rfl rfl ?_
  refine Go.icmp_ne C X at_133 (n1 := 143) (n2 := 136) (by decide) (by decide) rfl (fun hc133 => ?_) (fun hc133 => ?_)
  · refine Go.iload C X at_143 (n := 145) rfl rfl ?_
    refine Go.iload C X at_145 (n := 147) rfl rfl ?_
    refine Go.icmp_ne C X at_147 (n1 := 160) (n2 := 150) (by decide) (by decide) rfl (fun hc147 => ?_) (fun hc147 => ?_)
    · refine Go.iload C X at_160 (n := 162) rfl rfl ?_
      refine Go.iload C X at_162 (n := 164) rfl rfl ?_
      refine Go.icmp_ne C X at_164 (n1 := 177) (n2 := 167) (by decide) (by decide) rfl (fun hc164 => ?_) (fun hc164 => ?_)
      · refine Go.aload C X at_177 (n := 179) rfl rfl rfl ?_
        refine Go.iload C X at_179 (n := 181) rfl rfl ?_
        have hrg := own_range ⟨k0, hk0⟩ ⟨k1, hk1⟩ ⟨k2, hk2⟩ ⟨kw, hkw⟩
        have hln : (psum (incS k0 k1 k2)).length = 4 := rfl
        have hcnt := own_count (Int32.ofNat n1) (Int32.ofNat n2) hk0 hk1 hk2 hkw hpl
        refine Go.virt C X eT (argsL := [(.int (Int32.ofNat kw))]) (rest := []) (a := a) (rm5 l Z a0 hw n0 _ a is gs inc kw _ _ [(0 : Int32), Int32.ofNat n1, Int32.ofNat n2, 6] [r0.1, r1.1, r2.1] _ hkw hrg.1 (by simpa using hrg.2) (by simp) rfl (own_lt3 r0 r1 r2) (own_nat (psum (incS k0 k1 k2)) (by rw [hln]; omega)) (own_nat (psum (incS k0 k1 k2)) (by rw [hln]; omega)) F_is V_is F_gs V_gs F_inc V_inc) (wd hw 45 rfl) (wd hw 46 rfl) (notFace_of_selects (args := #[]) (mvT C.hZ (wd hw 48 rfl))) (wd hw 48 rfl) (wd hw 47 rfl) (wd hw 4 rfl) (wd hw 49 rfl) (by decide) E_a (lenOf pd_3 rfl) rfl at_181 (n := 184) rfl rfl (by decide) (W := 0) rfl (by decide) (by decide) (by decide) ?_
        clear X eT
        intro T h' v L X eT hQ
        obtain ⟨rfl, rfl, hE⟩ := hQ
        replace hE := hE.symm
        subst hE
        replace N := N.app (Fr.nil n0)
        rw [hcnt]
        show Go p e below _ (T.setTop (mkF m 184 #[.val (.int p0), .val (.int p1), .val (.int p2), .val (.int p3), .val (.int p4), .val (.int p5), .val (.int (Int32.ofNat n1)), .val (.int (Int32.ofNat n2)), .val (.int (Int32.ofNat k0)), .val (.int (Int32.ofNat k1)), .val (.int (Int32.ofNat k2)), .val (.int (Int32.ofNat kw)), .val (.ref f), .val (.ref gs), .val (.ref gw), .val (.ref a), .val (.int (0 : Int32))] [(.int (expI (Int32.ofNat n1) (Int32.ofNat n2) k0 k1 k2 kw))]))
        refine Go.iload C X at_184 (n := 186) rfl rfl ?_
        refine Go.icmp_ne C X at_186 (n1 := 193) (n2 := 189) (by decide) (by decide) rfl (fun hc186 => ?_) (fun hc186 => ?_)
        · exfalso
          apply hc186
          rw [own_eq (by omega) (by omega)] at hc133 hc147 hc164
          simp [expI, hc133, hc147, hc164]
        · refine Go.iconst C X at_189 (n := 190) rfl (v := (1 : Int32)) rfl ?_
          refine Go.goto C X at_190 (n := 194) (by decide) (by decide) ?_
          refine Go.retN C X eT (Or.inl rfl) (w := (1 : Int32)) (by decide) at_194 (by decide) (by decide) ?_
          exact ⟨rfl, N⟩
      · refine Go.iload C X at_167 (n := 169) rfl rfl ?_
        refine Go.bipush C X at_169 (n := 171) rfl (v := (6 : Int32)) rfl ?_
        refine Go.iload C X at_171 (n := 173) rfl rfl ?_
        refine Go.isub C X at_173 (n := 174) rfl ?_
        refine Go.iadd C X at_174 (n := 175) rfl ?_
        refine Go.istore C X at_175 (n := 177) rfl (l' := #[.val (.int p0), .val (.int p1), .val (.int p2), .val (.int p3), .val (.int p4), .val (.int p5), .val (.int (Int32.ofNat n1)), .val (.int (Int32.ofNat n2)), .val (.int (Int32.ofNat k0)), .val (.int (Int32.ofNat k1)), .val (.int (Int32.ofNat k2)), .val (.int (Int32.ofNat kw)), .val (.ref f), .val (.ref gs), .val (.ref gw), .val (.ref a), .val (.int ((0 : Int32) + ((6 : Int32) - (Int32.ofNat n2))))]) rfl ?_
        refine Go.aload C X at_177 (n := 179) rfl rfl rfl ?_
        refine Go.iload C X at_179 (n := 181) rfl rfl ?_
        have hrg := own_range ⟨k0, hk0⟩ ⟨k1, hk1⟩ ⟨k2, hk2⟩ ⟨kw, hkw⟩
        have hln : (psum (incS k0 k1 k2)).length = 4 := rfl
        have hcnt := own_count (Int32.ofNat n1) (Int32.ofNat n2) hk0 hk1 hk2 hkw hpl
        refine Go.virt C X eT (argsL := [(.int (Int32.ofNat kw))]) (rest := []) (a := a) (rm5 l Z a0 hw n0 _ a is gs inc kw _ _ [(0 : Int32), Int32.ofNat n1, Int32.ofNat n2, 6] [r0.1, r1.1, r2.1] _ hkw hrg.1 (by simpa using hrg.2) (by simp) rfl (own_lt3 r0 r1 r2) (own_nat (psum (incS k0 k1 k2)) (by rw [hln]; omega)) (own_nat (psum (incS k0 k1 k2)) (by rw [hln]; omega)) F_is V_is F_gs V_gs F_inc V_inc) (wd hw 45 rfl) (wd hw 46 rfl) (notFace_of_selects (args := #[]) (mvT C.hZ (wd hw 48 rfl))) (wd hw 48 rfl) (wd hw 47 rfl) (wd hw 4 rfl) (wd hw 49 rfl) (by decide) E_a (lenOf pd_3 rfl) rfl at_181 (n := 184) rfl rfl (by decide) (W := 0) rfl (by decide) (by decide) (by decide) ?_
        clear X eT
        intro T h' v L X eT hQ
        obtain ⟨rfl, rfl, hE⟩ := hQ
        replace hE := hE.symm
        subst hE
        replace N := N.app (Fr.nil n0)
        rw [hcnt]
        show Go p e below _ (T.setTop (mkF m 184 #[.val (.int p0), .val (.int p1), .val (.int p2), .val (.int p3), .val (.int p4), .val (.int p5), .val (.int (Int32.ofNat n1)), .val (.int (Int32.ofNat n2)), .val (.int (Int32.ofNat k0)), .val (.int (Int32.ofNat k1)), .val (.int (Int32.ofNat k2)), .val (.int (Int32.ofNat kw)), .val (.ref f), .val (.ref gs), .val (.ref gw), .val (.ref a), .val (.int ((0 : Int32) + ((6 : Int32) - (Int32.ofNat n2))))] [(.int (expI (Int32.ofNat n1) (Int32.ofNat n2) k0 k1 k2 kw))]))
        refine Go.iload C X at_184 (n := 186) rfl rfl ?_
        refine Go.icmp_ne C X at_186 (n1 := 193) (n2 := 189) (by decide) (by decide) rfl (fun hc186 => ?_) (fun hc186 => ?_)
        · exfalso
          apply hc186
          rw [own_eq (by omega) (by omega)] at hc133 hc147 hc164
          simp [expI, hc133, hc147, hc164]
        · refine Go.iconst C X at_189 (n := 190) rfl (v := (1 : Int32)) rfl ?_
          refine Go.goto C X at_190 (n := 194) (by decide) (by decide) ?_
          refine Go.retN C X eT (Or.inl rfl) (w := (1 : Int32)) (by decide) at_194 (by decide) (by decide) ?_
          exact ⟨rfl, N⟩
    · refine Go.iload C X at_150 (n := 152) rfl rfl ?_
      refine Go.iload C X at_152 (n := 154) rfl rfl ?_
      refine Go.iload C X at_154 (n := 156) rfl rfl ?_
      refine Go.isub C X at_156 (n := 157) rfl ?_
      refine Go.iadd C X at_157 (n := 158) rfl ?_
      refine Go.istore C X at_158 (n := 160) rfl (l' := #[.val (.int p0), .val (.int p1), .val (.int p2), .val (.int p3), .val (.int p4), .val (.int p5), .val (.int (Int32.ofNat n1)), .val (.int (Int32.ofNat n2)), .val (.int (Int32.ofNat k0)), .val (.int (Int32.ofNat k1)), .val (.int (Int32.ofNat k2)), .val (.int (Int32.ofNat kw)), .val (.ref f), .val (.ref gs), .val (.ref gw), .val (.ref a), .val (.int ((0 : Int32) + ((Int32.ofNat n2) - (Int32.ofNat n1))))]) rfl ?_
      refine Go.iload C X at_160 (n := 162) rfl rfl ?_
      refine Go.iload C X at_162 (n := 164) rfl rfl ?_
      refine Go.icmp_ne C X at_164 (n1 := 177) (n2 := 167) (by decide) (by decide) rfl (fun hc164 => ?_) (fun hc164 => ?_)
      · refine Go.aload C X at_177 (n := 179) rfl rfl rfl ?_
        refine Go.iload C X at_179 (n := 181) rfl rfl ?_
        have hrg := own_range ⟨k0, hk0⟩ ⟨k1, hk1⟩ ⟨k2, hk2⟩ ⟨kw, hkw⟩
        have hln : (psum (incS k0 k1 k2)).length = 4 := rfl
        have hcnt := own_count (Int32.ofNat n1) (Int32.ofNat n2) hk0 hk1 hk2 hkw hpl
        refine Go.virt C X eT (argsL := [(.int (Int32.ofNat kw))]) (rest := []) (a := a) (rm5 l Z a0 hw n0 _ a is gs inc kw _ _ [(0 : Int32), Int32.ofNat n1, Int32.ofNat n2, 6] [r0.1, r1.1, r2.1] _ hkw hrg.1 (by simpa using hrg.2) (by simp) rfl (own_lt3 r0 r1 r2) (own_nat (psum (incS k0 k1 k2)) (by rw [hln]; omega)) (own_nat (psum (incS k0 k1 k2)) (by rw [hln]; omega)) F_is V_is F_gs V_gs F_inc V_inc) (wd hw 45 rfl) (wd hw 46 rfl) (notFace_of_selects (args := #[]) (mvT C.hZ (wd hw 48 rfl))) (wd hw 48 rfl) (wd hw 47 rfl) (wd hw 4 rfl) (wd hw 49 rfl) (by decide) E_a (lenOf pd_3 rfl) rfl at_181 (n := 184) rfl rfl (by decide) (W := 0) rfl (by decide) (by decide) (by decide) ?_
        clear X eT
        intro T h' v L X eT hQ
        obtain ⟨rfl, rfl, hE⟩ := hQ
        replace hE := hE.symm
        subst hE
        replace N := N.app (Fr.nil n0)
        rw [hcnt]
        show Go p e below _ (T.setTop (mkF m 184 #[.val (.int p0), .val (.int p1), .val (.int p2), .val (.int p3), .val (.int p4), .val (.int p5), .val (.int (Int32.ofNat n1)), .val (.int (Int32.ofNat n2)), .val (.int (Int32.ofNat k0)), .val (.int (Int32.ofNat k1)), .val (.int (Int32.ofNat k2)), .val (.int (Int32.ofNat kw)), .val (.ref f), .val (.ref gs), .val (.ref gw), .val (.ref a), .val (.int ((0 : Int32) + ((Int32.ofNat n2) - (Int32.ofNat n1))))] [(.int (expI (Int32.ofNat n1) (Int32.ofNat n2) k0 k1 k2 kw))]))
        refine Go.iload C X at_184 (n := 186) rfl rfl ?_
        refine Go.icmp_ne C X at_186 (n1 := 193) (n2 := 189) (by decide) (by decide) rfl (fun hc186 => ?_) (fun hc186 => ?_)
        · exfalso
          apply hc186
          rw [own_eq (by omega) (by omega)] at hc133 hc147 hc164
          simp [expI, hc133, hc147, hc164]
        · refine Go.iconst C X at_189 (n := 190) rfl (v := (1 : Int32)) rfl ?_
          refine Go.goto C X at_190 (n := 194) (by decide) (by decide) ?_
          refine Go.retN C X eT (Or.inl rfl) (w := (1 : Int32)) (by decide) at_194 (by decide) (by decide) ?_
          exact ⟨rfl, N⟩
      · refine Go.iload C X at_167 (n := 169) rfl rfl ?_
        refine Go.bipush C X at_169 (n := 171) rfl (v := (6 : Int32)) rfl ?_
        refine Go.iload C X at_171 (n := 173) rfl rfl ?_
        refine Go.isub C X at_173 (n := 174) rfl ?_
        refine Go.iadd C X at_174 (n := 175) rfl ?_
        refine Go.istore C X at_175 (n := 177) rfl (l' := #[.val (.int p0), .val (.int p1), .val (.int p2), .val (.int p3), .val (.int p4), .val (.int p5), .val (.int (Int32.ofNat n1)), .val (.int (Int32.ofNat n2)), .val (.int (Int32.ofNat k0)), .val (.int (Int32.ofNat k1)), .val (.int (Int32.ofNat k2)), .val (.int (Int32.ofNat kw)), .val (.ref f), .val (.ref gs), .val (.ref gw), .val (.ref a), .val (.int (((0 : Int32) + ((Int32.ofNat n2) - (Int32.ofNat n1))) + ((6 : Int32) - (Int32.ofNat n2))))]) rfl ?_
        refine Go.aload C X at_177 (n := 179) rfl rfl rfl ?_
        refine Go.iload C X at_179 (n := 181) rfl rfl ?_
        have hrg := own_range ⟨k0, hk0⟩ ⟨k1, hk1⟩ ⟨k2, hk2⟩ ⟨kw, hkw⟩
        have hln : (psum (incS k0 k1 k2)).length = 4 := rfl
        have hcnt := own_count (Int32.ofNat n1) (Int32.ofNat n2) hk0 hk1 hk2 hkw hpl
        refine Go.virt C X eT (argsL := [(.int (Int32.ofNat kw))]) (rest := []) (a := a) (rm5 l Z a0 hw n0 _ a is gs inc kw _ _ [(0 : Int32), Int32.ofNat n1, Int32.ofNat n2, 6] [r0.1, r1.1, r2.1] _ hkw hrg.1 (by simpa using hrg.2) (by simp) rfl (own_lt3 r0 r1 r2) (own_nat (psum (incS k0 k1 k2)) (by rw [hln]; omega)) (own_nat (psum (incS k0 k1 k2)) (by rw [hln]; omega)) F_is V_is F_gs V_gs F_inc V_inc) (wd hw 45 rfl) (wd hw 46 rfl) (notFace_of_selects (args := #[]) (mvT C.hZ (wd hw 48 rfl))) (wd hw 48 rfl) (wd hw 47 rfl) (wd hw 4 rfl) (wd hw 49 rfl) (by decide) E_a (lenOf pd_3 rfl) rfl at_181 (n := 184) rfl rfl (by decide) (W := 0) rfl (by decide) (by decide) (by decide) ?_
        clear X eT
        intro T h' v L X eT hQ
        obtain ⟨rfl, rfl, hE⟩ := hQ
        replace hE := hE.symm
        subst hE
        replace N := N.app (Fr.nil n0)
        rw [hcnt]
        show Go p e below _ (T.setTop (mkF m 184 #[.val (.int p0), .val (.int p1), .val (.int p2), .val (.int p3), .val (.int p4), .val (.int p5), .val (.int (Int32.ofNat n1)), .val (.int (Int32.ofNat n2)), .val (.int (Int32.ofNat k0)), .val (.int (Int32.ofNat k1)), .val (.int (Int32.ofNat k2)), .val (.int (Int32.ofNat kw)), .val (.ref f), .val (.ref gs), .val (.ref gw), .val (.ref a), .val (.int (((0 : Int32) + ((Int32.ofNat n2) - (Int32.ofNat n1))) + ((6 : Int32) - (Int32.ofNat n2))))] [(.int (expI (Int32.ofNat n1) (Int32.ofNat n2) k0 k1 k2 kw))]))
        refine Go.iload C X at_184 (n := 186) rfl rfl ?_
        refine Go.icmp_ne C X at_186 (n1 := 193) (n2 := 189) (by decide) (by decide) rfl (fun hc186 => ?_) (fun hc186 => ?_)
        · exfalso
          apply hc186
          rw [own_eq (by omega) (by omega)] at hc133 hc147 hc164
          simp [expI, hc133, hc147, hc164]
        · refine Go.iconst C X at_189 (n := 190) rfl (v := (1 : Int32)) rfl ?_
          refine Go.goto C X at_190 (n := 194) (by decide) (by decide) ?_
          refine Go.retN C X eT (Or.inl rfl) (w := (1 : Int32)) (by decide) at_194 (by decide) (by decide) ?_
          exact ⟨rfl, N⟩
  · refine Go.iload C X at_136 (n := 138) rfl rfl ?_
    refine Go.iload C X at_138 (n := 140) rfl rfl ?_
    refine Go.iadd C X at_140 (n := 141) rfl ?_
    refine Go.istore C X at_141 (n := 143) rfl (l' := #[.val (.int p0), .val (.int p1), .val (.int p2), .val (.int p3), .val (.int p4), .val (.int p5), .val (.int (Int32.ofNat n1)), .val (.int (Int32.ofNat n2)), .val (.int (Int32.ofNat k0)), .val (.int (Int32.ofNat k1)), .val (.int (Int32.ofNat k2)), .val (.int (Int32.ofNat kw)), .val (.ref f), .val (.ref gs), .val (.ref gw), .val (.ref a), .val (.int ((0 : Int32) + (Int32.ofNat n1)))]) rfl ?_
    refine Go.iload C X at_143 (n := 145) rfl rfl ?_
    refine Go.iload C X at_145 (n := 147) rfl rfl ?_
    refine Go.icmp_ne C X at_147 (n1 := 160) (n2 := 150) (by decide) (by decide) rfl (fun hc147 => ?_) (fun hc147 => ?_)
    · refine Go.iload C X at_160 (n := 162) rfl rfl ?_
      refine Go.iload C X at_162 (n := 164) rfl rfl ?_
      refine Go.icmp_ne C X at_164 (n1 := 177) (n2 := 167) (by decide) (by decide) rfl (fun hc164 => ?_) (fun hc164 => ?_)
      · refine Go.aload C X at_177 (n := 179) rfl rfl rfl ?_
        refine Go.iload C X at_179 (n := 181) rfl rfl ?_
        have hrg := own_range ⟨k0, hk0⟩ ⟨k1, hk1⟩ ⟨k2, hk2⟩ ⟨kw, hkw⟩
        have hln : (psum (incS k0 k1 k2)).length = 4 := rfl
        have hcnt := own_count (Int32.ofNat n1) (Int32.ofNat n2) hk0 hk1 hk2 hkw hpl
        refine Go.virt C X eT (argsL := [(.int (Int32.ofNat kw))]) (rest := []) (a := a) (rm5 l Z a0 hw n0 _ a is gs inc kw _ _ [(0 : Int32), Int32.ofNat n1, Int32.ofNat n2, 6] [r0.1, r1.1, r2.1] _ hkw hrg.1 (by simpa using hrg.2) (by simp) rfl (own_lt3 r0 r1 r2) (own_nat (psum (incS k0 k1 k2)) (by rw [hln]; omega)) (own_nat (psum (incS k0 k1 k2)) (by rw [hln]; omega)) F_is V_is F_gs V_gs F_inc V_inc) (wd hw 45 rfl) (wd hw 46 rfl) (notFace_of_selects (args := #[]) (mvT C.hZ (wd hw 48 rfl))) (wd hw 48 rfl) (wd hw 47 rfl) (wd hw 4 rfl) (wd hw 49 rfl) (by decide) E_a (lenOf pd_3 rfl) rfl at_181 (n := 184) rfl rfl (by decide) (W := 0) rfl (by decide) (by decide) (by decide) ?_
        clear X eT
        intro T h' v L X eT hQ
        obtain ⟨rfl, rfl, hE⟩ := hQ
        replace hE := hE.symm
        subst hE
        replace N := N.app (Fr.nil n0)
        rw [hcnt]
        show Go p e below _ (T.setTop (mkF m 184 #[.val (.int p0), .val (.int p1), .val (.int p2), .val (.int p3), .val (.int p4), .val (.int p5), .val (.int (Int32.ofNat n1)), .val (.int (Int32.ofNat n2)), .val (.int (Int32.ofNat k0)), .val (.int (Int32.ofNat k1)), .val (.int (Int32.ofNat k2)), .val (.int (Int32.ofNat kw)), .val (.ref f), .val (.ref gs), .val (.ref gw), .val (.ref a), .val (.int ((0 : Int32) + (Int32.ofNat n1)))] [(.int (expI (Int32.ofNat n1) (Int32.ofNat n2) k0 k1 k2 kw))]))
        refine Go.iload C X at_184 (n := 186) rfl rfl ?_
        refine Go.icmp_ne C X at_186 (n1 := 193) (n2 := 189) (by decide) (by decide) rfl (fun hc186 => ?_) (fun hc186 => ?_)
        · exfalso
          apply hc186
          rw [own_eq (by omega) (by omega)] at hc133 hc147 hc164
          simp [expI, hc133, hc147, hc164]
        · refine Go.iconst C X at_189 (n := 190) rfl (v := (1 : Int32)) rfl ?_
          refine Go.goto C X at_190 (n := 194) (by decide) (by decide) ?_
          refine Go.retN C X eT (Or.inl rfl) (w := (1 : Int32)) (by decide) at_194 (by decide) (by decide) ?_
          exact ⟨rfl, N⟩
      · refine Go.iload C X at_167 (n := 169) rfl rfl ?_
        refine Go.bipush C X at_169 (n := 171) rfl (v := (6 : Int32)) rfl ?_
        refine Go.iload C X at_171 (n := 173) rfl rfl ?_
        refine Go.isub C X at_173 (n := 174) rfl ?_
        refine Go.iadd C X at_174 (n := 175) rfl ?_
        refine Go.istore C X at_175 (n := 177) rfl (l' := #[.val (.int p0), .val (.int p1), .val (.int p2), .val (.int p3), .val (.int p4), .val (.int p5), .val (.int (Int32.ofNat n1)), .val (.int (Int32.ofNat n2)), .val (.int (Int32.ofNat k0)), .val (.int (Int32.ofNat k1)), .val (.int (Int32.ofNat k2)), .val (.int (Int32.ofNat kw)), .val (.ref f), .val (.ref gs), .val (.ref gw), .val (.ref a), .val (.int (((0 : Int32) + (Int32.ofNat n1)) + ((6 : Int32) - (Int32.ofNat n2))))]) rfl ?_
        refine Go.aload C X at_177 (n := 179) rfl rfl rfl ?_
        refine Go.iload C X at_179 (n := 181) rfl rfl ?_
        have hrg := own_range ⟨k0, hk0⟩ ⟨k1, hk1⟩ ⟨k2, hk2⟩ ⟨kw, hkw⟩
        have hln : (psum (incS k0 k1 k2)).length = 4 := rfl
        have hcnt := own_count (Int32.ofNat n1) (Int32.ofNat n2) hk0 hk1 hk2 hkw hpl
        refine Go.virt C X eT (argsL := [(.int (Int32.ofNat kw))]) (rest := []) (a := a) (rm5 l Z a0 hw n0 _ a is gs inc kw _ _ [(0 : Int32), Int32.ofNat n1, Int32.ofNat n2, 6] [r0.1, r1.1, r2.1] _ hkw hrg.1 (by simpa using hrg.2) (by simp) rfl (own_lt3 r0 r1 r2) (own_nat (psum (incS k0 k1 k2)) (by rw [hln]; omega)) (own_nat (psum (incS k0 k1 k2)) (by rw [hln]; omega)) F_is V_is F_gs V_gs F_inc V_inc) (wd hw 45 rfl) (wd hw 46 rfl) (notFace_of_selects (args := #[]) (mvT C.hZ (wd hw 48 rfl))) (wd hw 48 rfl) (wd hw 47 rfl) (wd hw 4 rfl) (wd hw 49 rfl) (by decide) E_a (lenOf pd_3 rfl) rfl at_181 (n := 184) rfl rfl (by decide) (W := 0) rfl (by decide) (by decide) (by decide) ?_
        clear X eT
        intro T h' v L X eT hQ
        obtain ⟨rfl, rfl, hE⟩ := hQ
        replace hE := hE.symm
        subst hE
        replace N := N.app (Fr.nil n0)
        rw [hcnt]
        show Go p e below _ (T.setTop (mkF m 184 #[.val (.int p0), .val (.int p1), .val (.int p2), .val (.int p3), .val (.int p4), .val (.int p5), .val (.int (Int32.ofNat n1)), .val (.int (Int32.ofNat n2)), .val (.int (Int32.ofNat k0)), .val (.int (Int32.ofNat k1)), .val (.int (Int32.ofNat k2)), .val (.int (Int32.ofNat kw)), .val (.ref f), .val (.ref gs), .val (.ref gw), .val (.ref a), .val (.int (((0 : Int32) + (Int32.ofNat n1)) + ((6 : Int32) - (Int32.ofNat n2))))] [(.int (expI (Int32.ofNat n1) (Int32.ofNat n2) k0 k1 k2 kw))]))
        refine Go.iload C X at_184 (n := 186) rfl rfl ?_
        refine Go.icmp_ne C X at_186 (n1 := 193) (n2 := 189) (by decide) (by decide) rfl (fun hc186 => ?_) (fun hc186 => ?_)
        · exfalso
          apply hc186
          rw [own_eq (by omega) (by omega)] at hc133 hc147 hc164
          simp [expI, hc133, hc147, hc164]
        · refine Go.iconst C X at_189 (n := 190) rfl (v := (1 : Int32)) rfl ?_
          refine Go.goto C X at_190 (n := 194) (by decide) (by decide) ?_
          refine Go.retN C X eT (Or.inl rfl) (w := (1 : Int32)) (by decide) at_194 (by decide) (by decide) ?_
          exact ⟨rfl, N⟩
    · refine Go.iload C X at_150 (n := 152) rfl rfl ?_
      refine Go.iload C X at_152 (n := 154) rfl rfl ?_
      refine Go.iload C X at_154 (n := 156) rfl rfl ?_
      refine Go.isub C X at_156 (n := 157) rfl ?_
      refine Go.iadd C X at_157 (n := 158) rfl ?_
      refine Go.istore C X at_158 (n := 160) rfl (l' := #[.val (.int p0), .val (.int p1), .val (.int p2), .val (.int p3), .val (.int p4), .val (.int p5), .val (.int (Int32.ofNat n1)), .val (.int (Int32.ofNat n2)), .val (.int (Int32.ofNat k0)), .val (.int (Int32.ofNat k1)), .val (.int (Int32.ofNat k2)), .val (.int (Int32.ofNat kw)), .val (.ref f), .val (.ref gs), .val (.ref gw), .val (.ref a), .val (.int (((0 : Int32) + (Int32.ofNat n1)) + ((Int32.ofNat n2) - (Int32.ofNat n1))))]) rfl ?_
      refine Go.iload C X at_160 (n := 162) rfl rfl ?_
      refine Go.iload C X at_162 (n := 164) rfl rfl ?_
      refine Go.icmp_ne C X at_164 (n1 := 177) (n2 := 167) (by decide) (by decide) rfl (fun hc164 => ?_) (fun hc164 => ?_)
      · refine Go.aload C X at_177 (n := 179) rfl rfl rfl ?_
        refine Go.iload C X at_179 (n := 181) rfl rfl ?_
        have hrg := own_range ⟨k0, hk0⟩ ⟨k1, hk1⟩ ⟨k2, hk2⟩ ⟨kw, hkw⟩
        have hln : (psum (incS k0 k1 k2)).length = 4 := rfl
        have hcnt := own_count (Int32.ofNat n1) (Int32.ofNat n2) hk0 hk1 hk2 hkw hpl
        refine Go.virt C X eT (argsL := [(.int (Int32.ofNat kw))]) (rest := []) (a := a) (rm5 l Z a0 hw n0 _ a is gs inc kw _ _ [(0 : Int32), Int32.ofNat n1, Int32.ofNat n2, 6] [r0.1, r1.1, r2.1] _ hkw hrg.1 (by simpa using hrg.2) (by simp) rfl (own_lt3 r0 r1 r2) (own_nat (psum (incS k0 k1 k2)) (by rw [hln]; omega)) (own_nat (psum (incS k0 k1 k2)) (by rw [hln]; omega)) F_is V_is F_gs V_gs F_inc V_inc) (wd hw 45 rfl) (wd hw 46 rfl) (notFace_of_selects (args := #[]) (mvT C.hZ (wd hw 48 rfl))) (wd hw 48 rfl) (wd hw 47 rfl) (wd hw 4 rfl) (wd hw 49 rfl) (by decide) E_a (lenOf pd_3 rfl) rfl at_181 (n := 184) rfl rfl (by decide) (W := 0) rfl (by decide) (by decide) (by decide) ?_
        clear X eT
        intro T h' v L X eT hQ
        obtain ⟨rfl, rfl, hE⟩ := hQ
        replace hE := hE.symm
        subst hE
        replace N := N.app (Fr.nil n0)
        rw [hcnt]
        show Go p e below _ (T.setTop (mkF m 184 #[.val (.int p0), .val (.int p1), .val (.int p2), .val (.int p3), .val (.int p4), .val (.int p5), .val (.int (Int32.ofNat n1)), .val (.int (Int32.ofNat n2)), .val (.int (Int32.ofNat k0)), .val (.int (Int32.ofNat k1)), .val (.int (Int32.ofNat k2)), .val (.int (Int32.ofNat kw)), .val (.ref f), .val (.ref gs), .val (.ref gw), .val (.ref a), .val (.int (((0 : Int32) + (Int32.ofNat n1)) + ((Int32.ofNat n2) - (Int32.ofNat n1))))] [(.int (expI (Int32.ofNat n1) (Int32.ofNat n2) k0 k1 k2 kw))]))
        refine Go.iload C X at_184 (n := 186) rfl rfl ?_
        refine Go.icmp_ne C X at_186 (n1 := 193) (n2 := 189) (by decide) (by decide) rfl (fun hc186 => ?_) (fun hc186 => ?_)
        · exfalso
          apply hc186
          rw [own_eq (by omega) (by omega)] at hc133 hc147 hc164
          simp [expI, hc133, hc147, hc164]
        · refine Go.iconst C X at_189 (n := 190) rfl (v := (1 : Int32)) rfl ?_
          refine Go.goto C X at_190 (n := 194) (by decide) (by decide) ?_
          refine Go.retN C X eT (Or.inl rfl) (w := (1 : Int32)) (by decide) at_194 (by decide) (by decide) ?_
          exact ⟨rfl, N⟩
      · refine Go.iload C X at_167 (n := 169) rfl rfl ?_
        refine Go.bipush C X at_169 (n := 171) rfl (v := (6 : Int32)) rfl ?_
        refine Go.iload C X at_171 (n := 173) rfl rfl ?_
        refine Go.isub C X at_173 (n := 174) rfl ?_
        refine Go.iadd C X at_174 (n := 175) rfl ?_
        refine Go.istore C X at_175 (n := 177) rfl (l' := #[.val (.int p0), .val (.int p1), .val (.int p2), .val (.int p3), .val (.int p4), .val (.int p5), .val (.int (Int32.ofNat n1)), .val (.int (Int32.ofNat n2)), .val (.int (Int32.ofNat k0)), .val (.int (Int32.ofNat k1)), .val (.int (Int32.ofNat k2)), .val (.int (Int32.ofNat kw)), .val (.ref f), .val (.ref gs), .val (.ref gw), .val (.ref a), .val (.int ((((0 : Int32) + (Int32.ofNat n1)) + ((Int32.ofNat n2) - (Int32.ofNat n1))) + ((6 : Int32) - (Int32.ofNat n2))))]) rfl ?_
        refine Go.aload C X at_177 (n := 179) rfl rfl rfl ?_
        refine Go.iload C X at_179 (n := 181) rfl rfl ?_
        have hrg := own_range ⟨k0, hk0⟩ ⟨k1, hk1⟩ ⟨k2, hk2⟩ ⟨kw, hkw⟩
        have hln : (psum (incS k0 k1 k2)).length = 4 := rfl
        have hcnt := own_count (Int32.ofNat n1) (Int32.ofNat n2) hk0 hk1 hk2 hkw hpl
        refine Go.virt C X eT (argsL := [(.int (Int32.ofNat kw))]) (rest := []) (a := a) (rm5 l Z a0 hw n0 _ a is gs inc kw _ _ [(0 : Int32), Int32.ofNat n1, Int32.ofNat n2, 6] [r0.1, r1.1, r2.1] _ hkw hrg.1 (by simpa using hrg.2) (by simp) rfl (own_lt3 r0 r1 r2) (own_nat (psum (incS k0 k1 k2)) (by rw [hln]; omega)) (own_nat (psum (incS k0 k1 k2)) (by rw [hln]; omega)) F_is V_is F_gs V_gs F_inc V_inc) (wd hw 45 rfl) (wd hw 46 rfl) (notFace_of_selects (args := #[]) (mvT C.hZ (wd hw 48 rfl))) (wd hw 48 rfl) (wd hw 47 rfl) (wd hw 4 rfl) (wd hw 49 rfl) (by decide) E_a (lenOf pd_3 rfl) rfl at_181 (n := 184) rfl rfl (by decide) (W := 0) rfl (by decide) (by decide) (by decide) ?_
        clear X eT
        intro T h' v L X eT hQ
        obtain ⟨rfl, rfl, hE⟩ := hQ
        replace hE := hE.symm
        subst hE
        replace N := N.app (Fr.nil n0)
        rw [hcnt]
        show Go p e below _ (T.setTop (mkF m 184 #[.val (.int p0), .val (.int p1), .val (.int p2), .val (.int p3), .val (.int p4), .val (.int p5), .val (.int (Int32.ofNat n1)), .val (.int (Int32.ofNat n2)), .val (.int (Int32.ofNat k0)), .val (.int (Int32.ofNat k1)), .val (.int (Int32.ofNat k2)), .val (.int (Int32.ofNat kw)), .val (.ref f), .val (.ref gs), .val (.ref gw), .val (.ref a), .val (.int ((((0 : Int32) + (Int32.ofNat n1)) + ((Int32.ofNat n2) - (Int32.ofNat n1))) + ((6 : Int32) - (Int32.ofNat n2))))] [(.int (expI (Int32.ofNat n1) (Int32.ofNat n2) k0 k1 k2 kw))]))
        refine Go.iload C X at_184 (n := 186) rfl rfl ?_
        refine Go.icmp_ne C X at_186 (n1 := 193) (n2 := 189) (by decide) (by decide) rfl (fun hc186 => ?_) (fun hc186 => ?_)
        · exfalso
          apply hc186
          rw [own_eq (by omega) (by omega)] at hc133 hc147 hc164
          simp [expI, hc133, hc147, hc164]
        · refine Go.iconst C X at_189 (n := 190) rfl (v := (1 : Int32)) rfl ?_
          refine Go.goto C X at_190 (n := 194) (by decide) (by decide) ?_
          refine Go.retN C X eT (Or.inl rfl) (w := (1 : Int32)) (by decide) at_194 (by decide) (by decide) ?_
          exact ⟨rfl, N⟩
theorem own_oneI (r : Nat) : (1 : Int32) + Int32.ofNat r = Int32.ofNat (1 + r) := own_addI 1 r
theorem own_five {r : Nat} (h : r < 4) : ((5 : Int32) - Int32.ofNat (1 + r)).toInt = ((5 - (1 + r) : Nat) : Int) := by
  have h5 : (5 : Int32).toInt = 5 := by decide
  have h1 := own_toI (show 1 + r < 2 ^ 31 by omega)
  rw [Jvm.Kit.i32_sub (by rw [h5, h1]; omega) (by rw [h5, h1]; omega), h5, h1]; omega
theorem own_fivenz {r : Nat} (h : r < 4) : (5 : Int32) - Int32.ofNat (1 + r) ≠ 0 := fun q => by
  have h1 := own_five h
  rw [q] at h1
  have h0 : (0 : Int32).toInt = 0 := by decide
  omega
theorem pn_1 : plainName "com/example/routes_to_timing/routestotiming/fabric/RoutingGraphIncomingCountPinLaw" = true := by first | (simp [plainName, overriddenIn]; done) | decide +kernel
set_option maxRecDepth 65536 in
set_option maxHeartbeats 40000000 in
theorem rm0 (l : Launch) (Z : State) (a0 : Array Value) (hw : ∀ d ∈ tables_1, d.before a0 Z = true) (n0 : Nat) (h0 : Heap) (p0 p1 p2 p3 p4 p5 : Int32) (O : Old Z n0 h0) :
    Ctr l Z x code maxLocals ret room_1 #[(.int p0), (.int p1), (.int p2), (.int p3), (.int p4), (.int p5)] h0 (fun v h L => v = some (.int 1) ∧ Fr n0 L) := by
  refine Ctr.mk (plainFor_of_name pn_1) (ls := #[.val (.int p0), .val (.int p1), .val (.int p2), .val (.int p3), .val (.int p4), .val (.int p5), .unset, .unset, .unset, .unset, .unset, .unset, .unset, .unset, .unset, .unset, .unset]) (fun m => by first | (simp [entryFrame, mkF, argsToLocals, Value.category, maxLocals]; done) | rfl) ?_
  intro p e s m below meth c T C X eT hs0
  have N := Fr.nil n0
  show Go p e below _ (T.setTop (mkF m 0 #[.val (.int p0), .val (.int p1), .val (.int p2), .val (.int p3), .val (.int p4), .val (.int p5), .unset, .unset, .unset, .unset, .unset, .unset, .unset, .unset, .unset, .unset, .unset] []))
  refine Go.iconst C X at_0 (n := 1) rfl (v := (1 : Int32)) rfl ?_
  refine Go.iloadN C X at_1 (n := 2) rfl rfl ?_
  refine Go.ldcI C X (wd hw 0 rfl) at_2 (n := 4) rfl ?_
  refine Go.iand C X at_4 (n := 5) rfl ?_
  refine Go.iconst C X at_5 (n := 6) rfl (v := (4 : Int32)) rfl ?_
  refine Go.irem C X at_6 (n := 7) rfl (by decide) ?_
  obtain ⟨r1, hr1, qr1⟩ := own_small p0 4 4 rfl (by decide)
  rw [qr1]
  show Go p e below _ (T.setTop (mkF m 7 #[.val (.int p0), .val (.int p1), .val (.int p2), .val (.int p3), .val (.int p4), .val (.int p5), .unset, .unset, .unset, .unset, .unset, .unset, .unset, .unset, .unset, .unset, .unset] [(.int (Int32.ofNat r1)), (.int (1 : Int32))]))
  refine Go.iadd C X at_7 (n := 8) rfl ?_
  rw [own_oneI r1]
  show Go p e below _ (T.setTop (mkF m 8 #[.val (.int p0), .val (.int p1), .val (.int p2), .val (.int p3), .val (.int p4), .val (.int p5), .unset, .unset, .unset, .unset, .unset, .unset, .unset, .unset, .unset, .unset, .unset] [(.int (Int32.ofNat (1 + r1)))]))
  refine Go.istore C X at_8 (n := 10) rfl (l' := #[.val (.int p0), .val (.int p1), .val (.int p2), .val (.int p3), .val (.int p4), .val (.int p5), .val (.int (Int32.ofNat (1 + r1))), .unset, .unset, .unset, .unset, .unset, .unset, .unset, .unset, .unset, .unset]) rfl ?_
  refine Go.iload C X at_10 (n := 12) rfl rfl ?_
  refine Go.iconst C X at_12 (n := 13) rfl (v := (1 : Int32)) rfl ?_
  refine Go.iadd C X at_13 (n := 14) rfl ?_
  rw [own_sucI]
  show Go p e below _ (T.setTop (mkF m 14 #[.val (.int p0), .val (.int p1), .val (.int p2), .val (.int p3), .val (.int p4), .val (.int p5), .val (.int (Int32.ofNat (1 + r1))), .unset, .unset, .unset, .unset, .unset, .unset, .unset, .unset, .unset, .unset] [(.int (Int32.ofNat (1 + r1 + 1)))]))
  refine Go.iloadN C X at_14 (n := 15) rfl rfl ?_
  refine Go.ldcI C X (wd hw 0 rfl) at_15 (n := 17) rfl ?_
  refine Go.iand C X at_17 (n := 18) rfl ?_
  refine Go.iconst C X at_18 (n := 19) rfl (v := (5 : Int32)) rfl ?_
  refine Go.iload C X at_19 (n := 21) rfl rfl ?_
  refine Go.isub C X at_21 (n := 22) rfl ?_
  refine Go.irem C X at_22 (n := 23) rfl (own_fivenz hr1) ?_
  obtain ⟨r2, hr2, qr2⟩ := own_small p1 ((5 : Int32) - (Int32.ofNat (1 + r1))) (5 - (1 + r1)) (own_five hr1) (by omega)
  rw [qr2]
  show Go p e below _ (T.setTop (mkF m 23 #[.val (.int p0), .val (.int p1), .val (.int p2), .val (.int p3), .val (.int p4), .val (.int p5), .val (.int (Int32.ofNat (1 + r1))), .unset, .unset, .unset, .unset, .unset, .unset, .unset, .unset, .unset, .unset] [(.int (Int32.ofNat r2)), (.int (Int32.ofNat (1 + r1 + 1)))]))
  refine Go.iadd C X at_23 (n := 24) rfl ?_
  rw [own_addI]
  show Go p e below _ (T.setTop (mkF m 24 #[.val (.int p0), .val (.int p1), .val (.int p2), .val (.int p3), .val (.int p4), .val (.int p5), .val (.int (Int32.ofNat (1 + r1))), .unset, .unset, .unset, .unset, .unset, .unset, .unset, .unset, .unset, .unset] [(.int (Int32.ofNat (1 + r1 + 1 + r2)))]))
  refine Go.istore C X at_24 (n := 26) rfl (l' := #[.val (.int p0), .val (.int p1), .val (.int p2), .val (.int p3), .val (.int p4), .val (.int p5), .val (.int (Int32.ofNat (1 + r1))), .val (.int (Int32.ofNat (1 + r1 + 1 + r2))), .unset, .unset, .unset, .unset, .unset, .unset, .unset, .unset, .unset]) rfl ?_
  refine Go.iloadN C X at_26 (n := 27) rfl rfl ?_
  refine Go.ldcI C X (wd hw 0 rfl) at_27 (n := 29) rfl ?_
  refine Go.iand C X at_29 (n := 30) rfl ?_
  refine Go.iconst C X at_30 (n := 31) rfl (v := (3 : Int32)) rfl ?_
  refine Go.irem C X at_31 (n := 32) rfl (by decide) ?_
  obtain ⟨k0, hk0, qk0⟩ := own_small p2 3 3 rfl (by decide)
  rw [qk0]
  show Go p e below _ (T.setTop (mkF m 32 #[.val (.int p0), .val (.int p1), .val (.int p2), .val (.int p3), .val (.int p4), .val (.int p5), .val (.int (Int32.ofNat (1 + r1))), .val (.int (Int32.ofNat (1 + r1 + 1 + r2))), .unset, .unset, .unset, .unset, .unset, .unset, .unset, .unset, .unset] [(.int (Int32.ofNat k0))]))
  refine Go.istore C X at_32 (n := 34) rfl (l' := #[.val (.int p0), .val (.int p1), .val (.int p2), .val (.int p3), .val (.int p4), .val (.int p5), .val (.int (Int32.ofNat (1 + r1))), .val (.int (Int32.ofNat (1 + r1 + 1 + r2))), .val (.int (Int32.ofNat k0)), .unset, .unset, .unset, .unset, .unset, .unset, .unset, .unset]) rfl ?_
  refine Go.iloadN C X at_34 (n := 35) rfl rfl ?_
  refine Go.ldcI C X (wd hw 0 rfl) at_35 (n := 37) rfl ?_
  refine Go.iand C X at_37 (n := 38) rfl ?_
  refine Go.iconst C X at_38 (n := 39) rfl (v := (3 : Int32)) rfl ?_
  refine Go.irem C X at_39 (n := 40) rfl (by decide) ?_
  obtain ⟨k1, hk1, qk1⟩ := own_small p3 3 3 rfl (by decide)
  rw [qk1]
  show Go p e below _ (T.setTop (mkF m 40 #[.val (.int p0), .val (.int p1), .val (.int p2), .val (.int p3), .val (.int p4), .val (.int p5), .val (.int (Int32.ofNat (1 + r1))), .val (.int (Int32.ofNat (1 + r1 + 1 + r2))), .val (.int (Int32.ofNat k0)), .unset, .unset, .unset, .unset, .unset, .unset, .unset, .unset] [(.int (Int32.ofNat k1))]))
  refine Go.istore C X at_40 (n := 42) rfl (l' := #[.val (.int p0), .val (.int p1), .val (.int p2), .val (.int p3), .val (.int p4), .val (.int p5), .val (.int (Int32.ofNat (1 + r1))), .val (.int (Int32.ofNat (1 + r1 + 1 + r2))), .val (.int (Int32.ofNat k0)), .val (.int (Int32.ofNat k1)), .unset, .unset, .unset, .unset, .unset, .unset, .unset]) rfl ?_
  refine Go.iload C X at_42 (n := 44) rfl rfl ?_
  refine Go.ldcI C X (wd hw 0 rfl) at_44 (n := 46) rfl ?_
  refine Go.iand C X at_46 (n := 47) rfl ?_
  refine Go.iconst C X at_47 (n := 48) rfl (v := (3 : Int32)) rfl ?_
  refine Go.irem C X at_48 (n := 49) rfl (by decide) ?_
  obtain ⟨k2, hk2, qk2⟩ := own_small p4 3 3 rfl (by decide)
  rw [qk2]
  show Go p e below _ (T.setTop (mkF m 49 #[.val (.int p0), .val (.int p1), .val (.int p2), .val (.int p3), .val (.int p4), .val (.int p5), .val (.int (Int32.ofNat (1 + r1))), .val (.int (Int32.ofNat (1 + r1 + 1 + r2))), .val (.int (Int32.ofNat k0)), .val (.int (Int32.ofNat k1)), .unset, .unset, .unset, .unset, .unset, .unset, .unset] [(.int (Int32.ofNat k2))]))
  refine Go.istore C X at_49 (n := 51) rfl (l' := #[.val (.int p0), .val (.int p1), .val (.int p2), .val (.int p3), .val (.int p4), .val (.int p5), .val (.int (Int32.ofNat (1 + r1))), .val (.int (Int32.ofNat (1 + r1 + 1 + r2))), .val (.int (Int32.ofNat k0)), .val (.int (Int32.ofNat k1)), .val (.int (Int32.ofNat k2)), .unset, .unset, .unset, .unset, .unset, .unset]) rfl ?_
  refine Go.iload C X at_51 (n := 53) rfl rfl ?_
  refine Go.ldcI C X (wd hw 0 rfl) at_53 (n := 55) rfl ?_
  refine Go.iand C X at_55 (n := 56) rfl ?_
  refine Go.iconst C X at_56 (n := 57) rfl (v := (3 : Int32)) rfl ?_
  refine Go.irem C X at_57 (n := 58) rfl (by decide) ?_
  obtain ⟨kw, hkw, qkw⟩ := own_small p5 3 3 rfl (by decide)
  rw [qkw]
  show Go p e below _ (T.setTop (mkF m 58 #[.val (.int p0), .val (.int p1), .val (.int p2), .val (.int p3), .val (.int p4), .val (.int p5), .val (.int (Int32.ofNat (1 + r1))), .val (.int (Int32.ofNat (1 + r1 + 1 + r2))), .val (.int (Int32.ofNat k0)), .val (.int (Int32.ofNat k1)), .val (.int (Int32.ofNat k2)), .unset, .unset, .unset, .unset, .unset, .unset] [(.int (Int32.ofNat kw))]))
  refine Go.istore C X at_58 (n := 60) rfl (l' := #[.val (.int p0), .val (.int p1), .val (.int p2), .val (.int p3), .val (.int p4), .val (.int p5), .val (.int (Int32.ofNat (1 + r1))), .val (.int (Int32.ofNat (1 + r1 + 1 + r2))), .val (.int (Int32.ofNat k0)), .val (.int (Int32.ofNat k1)), .val (.int (Int32.ofNat k2)), .val (.int (Int32.ofNat kw)), .unset, .unset, .unset, .unset, .unset]) rfl ?_
  exact seg60 hw C X eT O N (by omega) (by omega) (by omega) hk0 hk1 hk2 hkw
set_option maxRecDepth 65536 in
set_option maxHeartbeats 40000000 in
theorem comes_1 {Post : Tables → Env → Array Value → State → Outcome → State → Prop} (hpost : ∀ tb e args s v u, (limb_1_1.after args s (.returned v) u = true ∧ limb_1_2.after args s (.returned v) u = true ∧ True) → FrameEnd s (.returned v) u (Jvm.fieldLocs frame_1_writes args s ++ Jvm.arrayLocs frame_1_arrays args s ++ Jvm.staticLocs frame_1_statics s) 32 192 → Post tb e args s (.returned v) u) :
    ArmFor flags0 classFile x code maxLocals ret World_1 tables_1 room_1 Calls_1 rest_1 Pre_1 Post := by
  intro l hfl _ _ p e ha hc hk s m args below hf hA hF happ hP
  obtain ⟨hcalls, hrest, hpre⟩ := hP
  obtain ⟨-, -, -, hnamed, -, -, -, hat⟩ := (Spec.applies_iff hf).mp happ
  obtain ⟨hg, hn⟩ := and_e (Cond.before_iff.mp (show (Jvm.Cond.and given_1 narrow_1).before args s = true from hpre))
  obtain ⟨hcnt, hq0⟩ := and_e hg
  obtain ⟨w0, w1, w2, w3, w4, w5, rfl⟩ : ∃ w0 w1 w2 w3 w4 w5 : Value, args = #[w0, w1, w2, w3, w4, w5] := by
    have hs : args.size = 6 := by simpa [Cond.value, given_1] using hcnt
    obtain ⟨L⟩ := args
    match L, hs with
    | [w0, w1, w2, w3, w4, w5], _ => exact ⟨w0, w1, w2, w3, w4, w5, rfl⟩
  have hw := fun d (hd : d ∈ tables_1) => atoms_spec (ws := Jvm.Cond.code x code maxLocals ret :: tables_1) hat d (List.mem_cons_of_mem _ hd)
  have hfit : Fit s := fun {y c} hc i hi => by
    obtain ⟨ha, rfl⟩ := Array.getElem?_eq_some_iff.mp hc
    have q := List.all_eq_true.mp ((Array.all_eq_true_iff_forall_mem.mp hF) _ (Array.getElem_mem ha)) i (List.mem_range.mpr hi)
    simpa [Array.getElem?_eq_getElem hi] using q
  obtain ⟨ha0, hq1⟩ := and_e hq0
  obtain ⟨i0, e0⟩ := is_v ha0
  obtain rfl : w0 = (.int i0) := Option.some.inj e0
  obtain ⟨ha1, hq2⟩ := and_e hq1
  obtain ⟨i1, e1⟩ := is_v ha1
  obtain rfl : w1 = (.int i1) := Option.some.inj e1
  obtain ⟨ha2, hq3⟩ := and_e hq2
  obtain ⟨i2, e2⟩ := is_v ha2
  obtain rfl : w2 = (.int i2) := Option.some.inj e2
  obtain ⟨ha3, hq4⟩ := and_e hq3
  obtain ⟨i3, e3⟩ := is_v ha3
  obtain rfl : w3 = (.int i3) := Option.some.inj e3
  obtain ⟨ha4, hq5⟩ := and_e hq4
  obtain ⟨i4, e4⟩ := is_v ha4
  obtain rfl : w4 = (.int i4) := Option.some.inj e4
  obtain ⟨i5, e5⟩ := is_v hq5
  obtain rfl : w5 = (.int i5) := Option.some.inj e5
  obtain ⟨n, o, g1, g2, g3, _, L, rfl, ⟨rfl, N⟩, hq⟩ := rm0 l s _ hw s.heap.size s.heap i0 i1 i2 i3 i4 i5 (Old.start s) tables_1 p e ha hc hk s m _ below hf ((Spec.applies_iff_loose hf).mp happ).1 ⟨rfl, State.Warmed39.refl s, rfl⟩ trivial
  refine ⟨n, _, g1, g2, g3, hpost _ _ _ _ _ _ ⟨Cond.after_iff.mpr rfl, Cond.after_iff.mpr (eq_i res_at (Term.int_eval (1)) rfl), trivial⟩ ⟨hq.1, hq.2.1, (hq.2.2.sift fun y hy => Or.inr (N y hy)).mono (by decide) (by decide)⟩⟩
theorem main_1_1 : Claimed_1_1 := comes_1 fun _ _ _ _ _ _ h hF => ⟨h.1, hF⟩
theorem main_1_2 : Claimed_1_2 := comes_1 fun _ _ _ _ _ _ h hF => ⟨h.2.1, hF⟩

end Jvm.Pilot.@@N@@
namespace Jvm.Pilot.@@N@@
open Jvm Jvm.ClassFile Sem Op Lib Jvm.Free Jvm.Stand Jvm.Pilot.@@N@@.Jvm.D
/-! MADE BY PROGRAM (witnessworld.py) out of the Statement's table words and the real class files: 9 classes; the members and pool entries that the words name. The judged class is class 1, her method 1. -/
namespace start1
open Jvm.ClassFile
def u (s : String) : CpInfo := .utf8 (stringToUtf16 s)
/-- a pool by its gaps: so many unusable entries, then the entry; so many at the end -/
def gap : Nat → List CpInfo → List CpInfo
  | 0, r => r
  | n + 1, r => .unusable :: gap n r
def poolList (es : List (Nat × CpInfo)) (last : Nat) : List CpInfo := es.foldr (fun e r => gap e.1 (e.2 :: r)) (gap last [])
def pool (es : List (Nat × CpInfo)) (last : Nat) : Array CpInfo := ⟨poolList es last⟩
def fileOf (pool : Array CpInfo) (this : Nat) (attrs : Array Attribute := #[]) (ms : Array MethodInfo := #[]) (fl : Nat := 33) (sup : Nat := 0) (ifs : Array Nat := #[]) (fds : Array FieldInfo := #[]) : ClassFile where
  minorVersion := 0
  majorVersion := 65
  constantPool := pool
  accessFlags := fl
  thisClass := this
  superClass := sup
  interfaces := ifs
  fields := fds
  methods := ms
  attributes := attrs
def plain (name : String) (sup : Option ClassId) : Class where
  name := name
  kind := .ordinary
  loader := none
  accessFlags := 33
  super := sup
  interfaces := #[]
  cf := none
  fields := #[]
  methods := #[]
  instanceTypes := #[]
  staticTypes := #[]
  resolved := #[]
  callSites := []
  init := .initialized
  statics := none
  mirror := none

def pool0 : Array CpInfo := pool [(5, u "<init>"), (0, u "()V"), (1, .class_ 10), (1, u "java/lang/Object"), (85, u "clone"), (0, u "()Ljava/lang/Object;")] 26

def k0c0 : Code := { maxStack := 0, maxLocals := 1, code := object_method_1_code, exceptionTable := #[], attributes := #[] }
def k0m0 : Method := { name := "<init>", desc := "()V", sig := { parameters := [], returnType := none }, accessFlags := 1, code := some k0c0 }
def k0m1 : Method := { name := "clone", desc := "()Ljava/lang/Object;", sig := { parameters := [], returnType := some (.object "java/lang/Object") }, accessFlags := 260, code := none }
/-- java/lang/Object -/
def k0 : Class := { plain "java/lang/Object" none with
  accessFlags := 33
  interfaces := #[]
  cf := some (fileOf pool0 8 #[] #[{ accessFlags := 1, nameIndex := 5, descriptorIndex := 6, attributes := #[] }, { accessFlags := 260, nameIndex := 96, descriptorIndex := 97, attributes := #[] }] 33 0 #[] #[])
  fields := #[]
  methods := #[k0m0, k0m1]
  instanceTypes := #[]
  staticTypes := #[]
  resolved := Array.replicate 124 none
  statics := none }

def pool1 : Array CpInfo := pool [(2, .class_ 4), (1, u "java/lang/Object"), (0, u "<init>"), (0, u "()V"), (0, .integer 2147483647), (0, .class_ 9), (0, u "com/example/routes_to_timing/routestotiming/fabric/RoutingGraph"), (0, .methodref 8 11), (0, .nameAndType 5 12), (0, u "(I[I[I[I)V"), (0, .methodref 8 14), (0, .nameAndType 15 16), (0, u "incomingCount"), (0, u "(I)I"), (0, .class_ 18), (0, u "com/example/routes_to_timing/routestotiming/fabric/RoutingGraphIncomingCountPinLaw"), (2, u "law"), (0, u "(IIIIII)Z")] 5

def k1m0 : Method := { name := "<init>", desc := "()V", sig := { parameters := [], returnType := none }, accessFlags := 1, code := none }
def k1c1 : Code := { maxStack := 6, maxLocals := 17, code := code, exceptionTable := #[], attributes := #[] }
def k1m1 : Method := { name := "law", desc := "(IIIIII)Z", sig := { parameters := [.int, .int, .int, .int, .int, .int], returnType := some .boolean }, accessFlags := 9, code := some k1c1 }
/-- com/example/routes_to_timing/routestotiming/fabric/RoutingGraphIncomingCountPinLaw -/
def k1 : Class := { plain "com/example/routes_to_timing/routestotiming/fabric/RoutingGraphIncomingCountPinLaw" (some 0) with
  accessFlags := 49
  interfaces := #[]
  cf := some (fileOf pool1 17 #[] #[{ accessFlags := 1, nameIndex := 5, descriptorIndex := 6, attributes := #[] }, { accessFlags := 9, nameIndex := 21, descriptorIndex := 22, attributes := #[] }] 49 2 #[] #[])
  fields := #[]
  methods := #[k1m0, k1m1]
  instanceTypes := #[]
  staticTypes := #[]
  resolved := Array.replicate 28 none
  statics := none }

def pool2 : Array CpInfo := pool [(2, .class_ 4), (1, u "com/example/routes_to_timing/routestotiming/fabric/RoutingGraph$Runs"), (3, .class_ 10), (1, u "com/example/routes_to_timing/routestotiming/fabric/RoutingGraph"), (0, u "<init>"), (10, u "(I[I[I[I)V"), (0, .methodref 24 25), (0, .class_ 26), (0, .nameAndType 11 27), (0, u "java/lang/Object"), (0, u "()V"), (12, .fieldref 8 41), (0, .nameAndType 42 43), (0, u "wireCount"), (0, u "I"), (0, .fieldref 8 45), (0, .nameAndType 46 47), (0, u "from"), (0, u "[I"), (0, .fieldref 8 49), (0, .nameAndType 50 47), (0, u "groupStart"), (0, .fieldref 8 52), (0, .nameAndType 53 47), (0, u "groupWire"), (0, .fieldref 8 55), (0, .nameAndType 56 47), (0, u "connectionGroup"), (0, .fieldref 8 58), (0, .nameAndType 59 47), (0, u "incomingStart"), (1, .methodref 8 62), (0, .nameAndType 63 64), (0, u "checkWire"), (0, u "(II)V"), (0, .fieldref 8 66), (0, .nameAndType 67 47), (0, u "outgoingStart"), (0, .methodref 8 69), (0, .nameAndType 70 71), (0, u "listByWire"), (0, u "([I[I)[I"), (0, .fieldref 8 73), (0, .nameAndType 74 47), (0, u "outgoing"), (0, .fieldref 8 76), (0, .nameAndType 77 47), (0, u "incoming"), (3, .methodref 82 83), (0, .class_ 47), (0, .nameAndType 84 85), (0, u "clone"), (0, u "()Ljava/lang/Object;"), (2, u "incomingCount"), (0, u "(I)I")] 46

def k2c0 : Code := { maxStack := 4, maxLocals := 7, code := prog_23_method_3_code, exceptionTable := #[], attributes := #[] }
def k2m0 : Method := { name := "<init>", desc := "(I[I[I[I)V", sig := { parameters := [.int, (.array .int), (.array .int), (.array .int)], returnType := none }, accessFlags := 1, code := some k2c0 }
def k2c1 : Code := { maxStack := 6, maxLocals := 3, code := prog_23_method_4_code, exceptionTable := #[], attributes := #[] }
def k2m1 : Method := { name := "checkWire", desc := "(II)V", sig := { parameters := [.int, .int], returnType := none }, accessFlags := 2, code := some k2c1 }
def k2c2 : Code := { maxStack := 6, maxLocals := 5, code := prog_23_method_5_code, exceptionTable := #[], attributes := #[] }
def k2m2 : Method := { name := "listByWire", desc := "([I[I)[I", sig := { parameters := [(.array .int), (.array .int)], returnType := some (.array .int) }, accessFlags := 10, code := some k2c2 }
def k2c3 : Code := { maxStack := 5, maxLocals := 4, code := prog_23_method_20_code, exceptionTable := #[], attributes := #[] }
def k2m3 : Method := { name := "incomingCount", desc := "(I)I", sig := { parameters := [.int], returnType := some .int }, accessFlags := 1, code := some k2c3 }
/-- com/example/routes_to_timing/routestotiming/fabric/RoutingGraph -/
def k2 : Class := { plain "com/example/routes_to_timing/routestotiming/fabric/RoutingGraph" (some 0) with
  accessFlags := 49
  interfaces := #[]
  cf := some (fileOf pool2 8 #[.nestMembers #[2]] #[{ accessFlags := 1, nameIndex := 11, descriptorIndex := 22, attributes := #[] }, { accessFlags := 2, nameIndex := 63, descriptorIndex := 64, attributes := #[] }, { accessFlags := 10, nameIndex := 70, descriptorIndex := 71, attributes := #[] }, { accessFlags := 1, nameIndex := 88, descriptorIndex := 89, attributes := #[] }] 49 24 #[] #[{ accessFlags := 18, nameIndex := 42, descriptorIndex := 43, attributes := #[] }, { accessFlags := 18, nameIndex := 46, descriptorIndex := 47, attributes := #[] }, { accessFlags := 18, nameIndex := 56, descriptorIndex := 47, attributes := #[] }, { accessFlags := 18, nameIndex := 50, descriptorIndex := 47, attributes := #[] }, { accessFlags := 18, nameIndex := 53, descriptorIndex := 47, attributes := #[] }, { accessFlags := 18, nameIndex := 67, descriptorIndex := 47, attributes := #[] }, { accessFlags := 18, nameIndex := 74, descriptorIndex := 47, attributes := #[] }, { accessFlags := 18, nameIndex := 59, descriptorIndex := 47, attributes := #[] }, { accessFlags := 18, nameIndex := 77, descriptorIndex := 47, attributes := #[] }])
  fields := #[{ name := "wireCount", type := .int, accessFlags := 18, slot := 0, constantValue := 0 }, { name := "from", type := (.array .int), accessFlags := 18, slot := 1, constantValue := 0 }, { name := "connectionGroup", type := (.array .int), accessFlags := 18, slot := 2, constantValue := 0 }, { name := "groupStart", type := (.array .int), accessFlags := 18, slot := 3, constantValue := 0 }, { name := "groupWire", type := (.array .int), accessFlags := 18, slot := 4, constantValue := 0 }, { name := "outgoingStart", type := (.array .int), accessFlags := 18, slot := 5, constantValue := 0 }, { name := "outgoing", type := (.array .int), accessFlags := 18, slot := 6, constantValue := 0 }, { name := "incomingStart", type := (.array .int), accessFlags := 18, slot := 7, constantValue := 0 }, { name := "incoming", type := (.array .int), accessFlags := 18, slot := 8, constantValue := 0 }]
  methods := #[k2m0, k2m1, k2m2, k2m3]
  instanceTypes := #[.int, (.array .int), (.array .int), (.array .int), (.array .int), (.array .int), (.array .int), (.array .int), (.array .int)]
  staticTypes := #[]
  resolved := Array.replicate 136 none
  statics := none }

def pool3 : Array CpInfo := pool [(1, .class_ 2), (0, u "java/lang/Cloneable"), (0, .class_ 4), (0, u "java/lang/Object")] 2

/-- java/lang/Cloneable -/
def k3 : Class := { plain "java/lang/Cloneable" (some 0) with
  accessFlags := 1537
  interfaces := #[]
  cf := some (fileOf pool3 1 #[] #[] 1537 3 #[] #[])
  fields := #[]
  methods := #[]
  instanceTypes := #[]
  staticTypes := #[]
  resolved := Array.replicate 7 none
  statics := none }

def pool4 : Array CpInfo := pool [(1, u "java/io/Serializable"), (0, .class_ 1), (0, u "java/lang/Object"), (0, .class_ 3)] 3

/-- java/io/Serializable -/
def k4 : Class := { plain "java/io/Serializable" (some 0) with
  accessFlags := 1537
  interfaces := #[]
  cf := some (fileOf pool4 2 #[] #[] 1537 4 #[] #[])
  fields := #[]
  methods := #[]
  instanceTypes := #[]
  staticTypes := #[]
  resolved := Array.replicate 8 none
  statics := none }

/-- the primitive byte -/
def k5 : Class := { plain "byte" none with kind := .primitive 'B', accessFlags := 0x411 }
/-- [B -/
def k6 : Class := { plain "[B" (some 0) with kind := .array 5 .byte, interfaces := #[3, 4], accessFlags := 1041 }

/-- the primitive int -/
def k7 : Class := { plain "int" none with kind := .primitive 'I', accessFlags := 0x411 }
/-- [I -/
def k8 : Class := { plain "[I" (some 0) with kind := .array 7 .int, interfaces := #[3, 4], accessFlags := 1041 }

def heap : Heap := #[]
def classes : Array Class := #[k0, k1, k2, k3, k4, k5, k6, k7, k8]
def interned : List (Array UInt16 × Addr) := []
def slotsUsed : Nat := 0
def theMethod : MethodId := ⟨1, 1⟩
def args0 : Array Value := #[.int 5, .int 7, .int 3, .int 4, .int 5, .int 6]
def aboutOver (below : List Frame) : State where
  vm := { classes := classes, interned := interned.toArray }
  heap := heap
  slotsUsed := slotsUsed
  threads := #[{ frames := .invoking theMethod args0 :: below }]
def below0 : List Frame := [.native { method := ⟨0, 0⟩, args := #[] }]
def about1 : State := aboutOver below0
def p0 : Program := .bare "" "" ""
def e0 : Env := launch0.env 0 0 0
theorem w_frames : about1.frames = Frame.invoking theMethod args0 :: below0 := rfl
set_option maxRecDepth 65536 in
theorem w_args : argsFit about1.vm theMethod args0 = true := by decide +kernel
set_option maxRecDepth 65536 in
theorem w_heap : heapFits about1 = true := by decide +kernel
set_option maxRecDepth 65536 in
theorem w_runnable : about1.curStatus? = some .runnable := by decide +kernel
set_option maxRecDepth 65536 in
theorem w_alone : about1.alone = true := by decide +kernel
set_option maxRecDepth 65536 in
theorem w_named : about1.methodNamed? x = some theMethod := by decide +kernel
set_option maxRecDepth 65536 in
theorem w_hears : about1.hears theMethod below0 = true := by decide +kernel
set_option maxRecDepth 65536 in
theorem w_ripe : about1.ripe theMethod args0 below0 = true := by decide +kernel
theorem w_running : about1.status = .running := rfl
set_option maxRecDepth 65536 in
theorem w_room : about1.hasRoom e0.platform room_1 = true :=
  launch0.hasRoom_least _ room_1 (by decide +kernel) (by decide +kernel) (by decide +kernel) (by decide +kernel) (by decide +kernel) (by decide +kernel)
theorem allAtoms_all (ts : List Jvm.Cond) (a : Array Jvm.Value) (st : Jvm.State) : (allAtoms ts).before a st = ts.all (fun c => c.before a st) := by
  induction ts with
  | nil => rfl
  | cons c t ih =>
    show (Jvm.Cond.and c (allAtoms t)).before a st = _
    rw [Jvm.Cond.before_and, ih, List.all_cons]
def words1 : List Jvm.Cond := Jvm.Cond.code x code maxLocals ret :: tables_1
/-- a 'code' word, met by the world's own term for the bytes: nothing is compared byte by byte -/
theorem code_word {y : MethodName} {bytes : ByteArray} {mx : Nat} {rt : Option FieldType} {a : Array Value} {s : State} {m : MethodId} {meth : Method} {c : Code} (h1 : s.methodNamed? y = some m) (h2 : s.vm.method? m = some meth) (h3 : meth.code = some c) (h4 : c.code = bytes)
    (h5 : (c.maxLocals == mx && c.exceptionTable.isEmpty && decide (c.maxStack ≤ mostOperands) && decide (meth.sig.returnType = rt) && !meth.locks && decide (parseMethodDescriptor y.desc = some meth.sig)) = true) : (Jvm.Cond.code y bytes mx rt).before a s = true := by
  simp only [Bool.and_eq_true, beq_iff_eq, Bool.not_eq_true', decide_eq_true_eq] at h5
  obtain ⟨⟨⟨⟨⟨g1, g2⟩, g3⟩, g4⟩, g5⟩, g6⟩ := h5
  simp [Cond.before, Cond.holds, Cond.value, h1, h2, h3, h4, g1, g2, g3, g4, g5, g6]
def isCode : Jvm.Cond → Bool
  | .code _ _ _ _ => true
  | _ => false
theorem all_split {L : List Jvm.Cond} {P : Jvm.Cond → Bool} (h1 : L.all (fun c => isCode c || P c) = true) (h2 : ∀ c ∈ L.filter isCode, P c = true) : L.all P = true := by
  refine List.all_eq_true.mpr fun c hc => ?_
  have h := List.all_eq_true.mp h1 c hc
  rcases Bool.eq_false_or_eq_true (isCode c) with hi | hi
  · exact h2 c (List.mem_filter.mpr ⟨hc, hi⟩)
  · simpa [hi] using h
set_option maxRecDepth 65536 in
theorem w_c0 : (Jvm.Cond.code x code maxLocals ret).before args0 about1 = true := code_word (m := ⟨1, 1⟩) (meth := k1m1) (c := k1c1) (by decide +kernel) rfl rfl rfl (by decide +kernel)
set_option maxRecDepth 65536 in
theorem w_c1 : (Jvm.Cond.code ({ cls := "com/example/routes_to_timing/routestotiming/fabric/RoutingGraph", name := "<init>", desc := "(I[I[I[I)V" } : Jvm.MethodName) prog_23_method_3_code (7 : Nat) (Option.none : Option Jvm.ClassFile.FieldType)).before args0 about1 = true := code_word (m := ⟨2, 0⟩) (meth := k2m0) (c := k2c0) (by decide +kernel) rfl rfl rfl (by decide +kernel)
set_option maxRecDepth 65536 in
theorem w_c2 : (Jvm.Cond.code ({ cls := "java/lang/Object", name := "<init>", desc := "()V" } : Jvm.MethodName) object_method_1_code (1 : Nat) (Option.none : Option Jvm.ClassFile.FieldType)).before args0 about1 = true := code_word (m := ⟨0, 0⟩) (meth := k0m0) (c := k0c0) (by decide +kernel) rfl rfl rfl (by decide +kernel)
set_option maxRecDepth 65536 in
theorem w_c3 : (Jvm.Cond.code ({ cls := "com/example/routes_to_timing/routestotiming/fabric/RoutingGraph", name := "checkWire", desc := "(II)V" } : Jvm.MethodName) prog_23_method_4_code (3 : Nat) (Option.none : Option Jvm.ClassFile.FieldType)).before args0 about1 = true := code_word (m := ⟨2, 1⟩) (meth := k2m1) (c := k2c1) (by decide +kernel) rfl rfl rfl (by decide +kernel)
set_option maxRecDepth 65536 in
theorem w_c4 : (Jvm.Cond.code ({ cls := "com/example/routes_to_timing/routestotiming/fabric/RoutingGraph", name := "listByWire", desc := "([I[I)[I" } : Jvm.MethodName) prog_23_method_5_code (5 : Nat) (Option.some (Jvm.ClassFile.FieldType.array Jvm.ClassFile.FieldType.int))).before args0 about1 = true := code_word (m := ⟨2, 2⟩) (meth := k2m2) (c := k2c2) (by decide +kernel) rfl rfl rfl (by decide +kernel)
set_option maxRecDepth 65536 in
theorem w_c5 : (Jvm.Cond.code ({ cls := "com/example/routes_to_timing/routestotiming/fabric/RoutingGraph", name := "incomingCount", desc := "(I)I" } : Jvm.MethodName) prog_23_method_20_code (4 : Nat) (Option.some Jvm.ClassFile.FieldType.int)).before args0 about1 = true := code_word (m := ⟨2, 3⟩) (meth := k2m3) (c := k2c3) (by decide +kernel) rfl rfl rfl (by decide +kernel)
def codes1 : List Jvm.Cond := [Jvm.Cond.code x code maxLocals ret, Jvm.Cond.code ({ cls := "com/example/routes_to_timing/routestotiming/fabric/RoutingGraph", name := "<init>", desc := "(I[I[I[I)V" } : Jvm.MethodName) prog_23_method_3_code (7 : Nat) (Option.none : Option Jvm.ClassFile.FieldType), Jvm.Cond.code ({ cls := "java/lang/Object", name := "<init>", desc := "()V" } : Jvm.MethodName) object_method_1_code (1 : Nat) (Option.none : Option Jvm.ClassFile.FieldType), Jvm.Cond.code ({ cls := "com/example/routes_to_timing/routestotiming/fabric/RoutingGraph", name := "checkWire", desc := "(II)V" } : Jvm.MethodName) prog_23_method_4_code (3 : Nat) (Option.none : Option Jvm.ClassFile.FieldType), Jvm.Cond.code ({ cls := "com/example/routes_to_timing/routestotiming/fabric/RoutingGraph", name := "listByWire", desc := "([I[I)[I" } : Jvm.MethodName) prog_23_method_5_code (5 : Nat) (Option.some (Jvm.ClassFile.FieldType.array Jvm.ClassFile.FieldType.int)), Jvm.Cond.code ({ cls := "com/example/routes_to_timing/routestotiming/fabric/RoutingGraph", name := "incomingCount", desc := "(I)I" } : Jvm.MethodName) prog_23_method_20_code (4 : Nat) (Option.some Jvm.ClassFile.FieldType.int)]
set_option maxRecDepth 65536 in
theorem codes_eq : words1.filter isCode = codes1 := rfl
theorem w_codes : ∀ c ∈ words1.filter isCode, c.before args0 about1 = true := by
  rw [codes_eq]
  intro c hc
  simp only [codes1, List.mem_cons, List.not_mem_nil, or_false] at hc
  rcases hc with rfl | rfl | rfl | rfl | rfl | rfl
  · exact w_c0
  · exact w_c1
  · exact w_c2
  · exact w_c3
  · exact w_c4
  · exact w_c5
set_option maxRecDepth 65536 in
theorem w_t1 : (words1.take 24).all (fun c => isCode c || c.before args0 about1) = true := by decide +kernel
set_option maxRecDepth 65536 in
theorem w_t2 : ((words1.drop 24).take 24).all (fun c => isCode c || c.before args0 about1) = true := by decide +kernel
set_option maxRecDepth 65536 in
theorem w_t3 : ((words1.drop 24).drop 24).all (fun c => isCode c || c.before args0 about1) = true := by decide +kernel
theorem w_tables : (allAtoms (Jvm.Cond.code x code maxLocals ret :: tables_1)).before args0 about1 = true := by
  rw [allAtoms_all]
  show words1.all (fun c => c.before args0 about1) = true
  refine all_split ?_ w_codes
  rw [← List.take_append_drop 24 words1, List.all_append, w_t1, ← List.take_append_drop 24 (words1.drop 24), List.all_append, w_t2, w_t3]
  rfl
set_option maxRecDepth 65536 in
theorem w_case : (Jvm.Cond.and given_1 narrow_1).before args0 about1 = true := by decide +kernel
theorem w_applies : (headSpec (Jvm.Cond.code x code maxLocals ret :: tables_1) room_1).applies x e0.platform about1 = true :=
  (Spec.applies_iff w_frames).mpr ⟨w_running, w_runnable, w_alone, w_named, w_hears, w_ripe, w_room, w_tables⟩
theorem atStart : AtStart classFile x code maxLocals ret World_1 tables_1 room_1 Calls_1 rest_1 Pre_1 launch0 p0 e0 about1 theMethod args0 below0 :=
  ⟨lists_1, trivial, launch0.admits_env _ _ _, launch0.least_env, fairChoices_fair.cas, fairChoices_fair.clock, w_frames, w_args, w_heap, w_applies, trivial, trivial, w_case⟩
end start1
theorem witness_1 : WitnessClaimed_1 := ⟨start1.p0, start1.e0, start1.about1, start1.theMethod, start1.args0, start1.below0, start1.atStart⟩
end Jvm.Pilot.@@N@@
