import JvmDerived
import JvmDerived.Pilot.@@N@@Statement
import JvmDerived.Pilot.@@N@@Code
set_option linter.unusedVariables false
set_option linter.unusedSimpArgs false
namespace Jvm.RoadKit
open Sem ClassFile Op Lib Jvm.Stand Jvm.Free Jvm.LawKit
section OwnA
variable {p : Program} {l : Launch} {e : Env} {R : Room} {s : State} {m : MethodId} {args : Array Value} {below : List Frame} {meth : Method} {c : Code} {T : State} {locs : List Loc} {cells slots : Nat} {Z : State} {a0 : Array Value} {h : Heap}
/-- from T the run comes to an end of which K speaks -/
def Go (p : Program) (e : Env) (below : List Frame) (K : Outcome → State → Prop) (T : State) : Prop :=
  ∃ s₂ o, Steps p.tables e below T s₂ ∧ s₂.status = .running ∧ Ended s₂ below o ∧ K o s₂
theorem Go.of {K : Outcome → State → Prop} {T T' : State} (st : ∀ t, Steps p.tables e below T' t → Steps p.tables e below T t) (k : Go p e below K T') : Go p e below K T := by
  obtain ⟨t, o, h1, h2⟩ := k
  exact ⟨t, o, st t h1, h2⟩
/-- what stands through a whole body -/
def Cx (p : Program) (s : State) (m : MethodId) (meth : Method) (c : Code) (Z : State) (own : String) (bytes : ByteArray) (maxL : Nat) (ret : Option FieldType) (nm : String) : Prop :=
  p.tables.exec = Jvm.exec ∧ Z.Warmed39 s.vm ∧ c.code = bytes ∧ c.maxLocals = maxL ∧ s.vm.findClass own = some m.cls ∧ meth.sig.returnType = ret ∧ meth.name = nm ∧ meth.locks = false
variable {own nm : String} {bytes : ByteArray} {maxL : Nat} {ret : Option FieldType} {K : Outcome → State → Prop}
theorem Cx.hx (C : Cx p s m meth c Z own bytes maxL ret nm) : p.tables.exec = Jvm.exec := C.1
theorem Cx.hZ (C : Cx p s m meth c Z own bytes maxL ret nm) : Z.Warmed39 s.vm := C.2.1
theorem Cx.hby (C : Cx p s m meth c Z own bytes maxL ret nm) : c.code = bytes := C.2.2.1
theorem Cx.hml (C : Cx p s m meth c Z own bytes maxL ret nm) : c.maxLocals = maxL := C.2.2.2.1
theorem Cx.hown (C : Cx p s m meth c Z own bytes maxL ret nm) : s.vm.findClass own = some m.cls := C.2.2.2.2.1
theorem Cx.hret (C : Cx p s m meth c Z own bytes maxL ret nm) : meth.sig.returnType = ret := C.2.2.2.2.2.1
theorem Cx.hnm (C : Cx p s m meth c Z own bytes maxL ret nm) : meth.name = nm := C.2.2.2.2.2.2.1
theorem Cx.hlk (C : Cx p s m meth c Z own bytes maxL ret nm) : meth.locks = false := C.2.2.2.2.2.2.2
/-- the end of a body: what it returned, the heap, the places written -/
def EndQ (s : State) (Q : Option Value → Heap → List Loc → Prop) (k n : Nat) (o : Outcome) (t : State) : Prop := ∃ v L, o = .returned v ∧ Q v t.heap L ∧ FrameEnd s o t L k n
/-- a body's contract -/
def Ctr (l : Launch) (Z : State) (y : MethodName) (bytes : ByteArray) (maxL : Nat) (ret : Option FieldType) (rm : Room) (as' : Array Value) (h : Heap) (Q : Option Value → Heap → List Loc → Prop) : Prop :=
  ∀ ws, MetFree l y (head1 (Cond.code y bytes maxL ret :: ws) rm) (fun a U => a = as' ∧ Z.Warmed39 U.vm ∧ U.heap = h) (fun _ _ _ _ _ => True) (fun _ U o U' => EndQ U Q rm.cells rm.slots o U')
theorem Ctr.mk {y : MethodName} {rm : Room} {as' : Array Value} {Q : Option Value → Heap → List Loc → Prop} (hp : plainFor y = true) {ls : Array Slot} (hE : ∀ m : MethodId, entryFrame m as' maxL = mkF m 0 ls [])
    (body : ∀ (p : Program) (e : Env) (s : State) (m : MethodId) (below : List Frame) (meth : Method) (c : Code) (T : State), Cx p s m meth c Z y.cls bytes maxL ret y.name → Stand p l e rm s m as' below meth c T [] 0 0 → T.heap = h → s.heap = h → Go p e below (EndQ s Q rm.cells rm.slots) (T.setTop (mkF m 0 ls []))) :
    Ctr l Z y bytes maxL ret rm as' h Q := by
  intro ws
  refine MetFree.of_bodySF hp hisR ?_
  intro p e s m args below meth c s₁ Bd hml0 hP hK
  obtain ⟨rfl, hZ, hh⟩ := hP
  have q := body p e s m below meth c s₁ ⟨Bd.exec, hZ, Bd.bytes, hml0, findClass_of_methodNamed Bd.named, Bd.returns, (name_of_methodNamed Bd.named Bd.method).1, BodyLoose.notSynchronized Bd⟩ (Stand.of_body Bd) (by rw [← hh, Bd.state]; rfl) hh
  rw [← hE m] at q
  exact q
theorem Ctr.mono {y : MethodName} {rm : Room} {as' : Array Value} {Q Q' : Option Value → Heap → List Loc → Prop} (h1 : Ctr l Z y bytes maxL ret rm as' h Q) (h2 : ∀ v h' L, Q v h' L → Q' v h' L) : Ctr l Z y bytes maxL ret rm as' h Q' :=
  fun ws p e ha hc hk s m args below hf happ hP hK => by
    obtain ⟨n, o, g1, g2, g3, v, L, g4, g5, g6⟩ := h1 ws p e ha hc hk s m args below hf happ hP hK
    exact ⟨n, o, g1, g2, g3, v, L, g4, h2 _ _ _ g5, g6⟩
theorem Go.fin (C : Cx p s m meth c Z own bytes maxL ret nm) (X : Stand p l e R s m args below meth c T locs cells slots) (eT : T.heap = h) {v : Option Value} (hv : ret = none → v = none) {Q : Option Value → Heap → List Loc → Prop} {k n : Nat} (hQ : Q v h locs) (hc : cells ≤ k) (hn : slots ≤ n) {g : JFrame}
    (st : ∀ fs, (∀ (f : JFrame) (acts : List Action), f.method = m → f.locked = none → f.entered = [] → (doReturn e (T.setTop f) acts v).1 = T.setFrames fs) → Steps p.tables e below (T.setTop g) (T.setFrames fs)) : Go p e below (EndQ s Q k n) (T.setTop g) := by
  obtain ⟨fs, hr, hrun, hended, hW, hsame⟩ := X.leave (v := v) (fun h => hv (C.hret ▸ h)) C.hlk
  subst eT
  exact ⟨_, _, st fs hr, hrun, hended, _, _, rfl, hQ, ⟨_, rfl⟩, hW, hsame.mono hc hn⟩
theorem Go.ret0 (C : Cx p s m meth c Z own bytes maxL none nm) (X : Stand p l e R s m args below meth c T locs cells slots) (eT : T.heap = h) {pc : Nat} {ls : Array Slot} {Q : Option Value → Heap → List Loc → Prop} {k n : Nat} (hd : decode bytes pc = .ok (.return_, 1)) (hc : cells ≤ k) (hn : slots ≤ n) (hQ : Q none h locs) : Go p e below (EndQ s Q k n) (T.setTop (mkF m pc ls [])) :=
  Go.fin C X eT (v := none) (fun _ => rfl) hQ hc hn fun fs hr => X.returnOut C.hx C.hret (hb C.hby hd) hr
theorem Go.retI (C : Cx p s m meth c Z own bytes maxL (some .int) nm) (X : Stand p l e R s m args below meth c T locs cells slots) (eT : T.heap = h) {pc : Nat} {ls : Array Slot} {z : Int32} {rest : List Value} {Q : Option Value → Heap → List Loc → Prop} {k n : Nat} (hd : decode bytes pc = .ok (.ireturn, 1)) (hc : cells ≤ k) (hn : slots ≤ n) (hQ : Q (some (.int z)) h locs) : Go p e below (EndQ s Q k n) (T.setTop (mkF m pc ls (.int z :: rest))) :=
  Go.fin C X eT (v := some (.int z)) (fun h => nomatch h) hQ hc hn fun fs hr => retOut X C.hx C.hret rfl (Or.inl ⟨rfl, Or.inl rfl, z, rfl⟩) (hb C.hby hd) hr
theorem Go.retJ (C : Cx p s m meth c Z own bytes maxL (some .long) nm) (X : Stand p l e R s m args below meth c T locs cells slots) (eT : T.heap = h) {pc : Nat} {ls : Array Slot} {z : Int64} {rest : List Value} {Q : Option Value → Heap → List Loc → Prop} {k n : Nat} (hd : decode bytes pc = .ok (.lreturn, 1)) (hc : cells ≤ k) (hn : slots ≤ n) (hQ : Q (some (.long z)) h locs) : Go p e below (EndQ s Q k n) (T.setTop (mkF m pc ls (.long z :: rest))) :=
  Go.fin C X eT (v := some (.long z)) (fun h => nomatch h) hQ hc hn fun fs hr => retOut X C.hx C.hret rfl (Or.inr (Or.inl ⟨rfl, rfl, z, rfl⟩)) (hb C.hby hd) hr
theorem Go.retA {t : FieldType} (C : Cx p s m meth c Z own bytes maxL (some t) nm) (X : Stand p l e R s m args below meth c T locs cells slots) (eT : T.heap = h) {pc : Nat} {ls : Array Slot} {w : Value} {rest : List Value} {Q : Option Value → Heap → List Loc → Prop} {k n : Nat} (ht : t.isReference = true) (hn0 : narrow t w = w) (hw : w.isRef = true) (hd : decode bytes pc = .ok (.areturn, 1)) (hc : cells ≤ k) (hn : slots ≤ n) (hQ : Q (some w) h locs) : Go p e below (EndQ s Q k n) (T.setTop (mkF m pc ls (w :: rest))) :=
  Go.fin C X eT (v := some w) (fun h => nomatch h) hQ hc hn fun fs hr => retOut X C.hx C.hret hn0 (Or.inr (Or.inr (Or.inr (Or.inr ⟨rfl, ht, hw⟩)))) (hb C.hby hd) hr
theorem Go.retN {t : FieldType} (C : Cx p s m meth c Z own bytes maxL (some t) nm) (X : Stand p l e R s m args below meth c T locs cells slots) (eT : T.heap = h) {pc : Nat} {ls : Array Slot} {z w : Int32} {rest : List Value} {Q : Option Value → Heap → List Loc → Prop} {k n : Nat} (ht : t = .boolean ∨ t = .byte ∨ t = .char ∨ t = .short) (hw : nar t z = w) (hd : decode bytes pc = .ok (.ireturn, 1)) (hc : cells ≤ k) (hn : slots ≤ n) (hQ : Q (some (.int w)) h locs) : Go p e below (EndQ s Q k n) (T.setTop (mkF m pc ls (.int z :: rest))) := by
  subst hw
  exact Go.fin C X eT (v := some (.int (nar t z))) (fun h => nomatch h) hQ hc hn fun fs hr => Jvm.RoadKit.retN X C.hx C.hret ht (hb C.hby hd) hr
theorem Go.iloadN (C : Cx p s m meth c Z own bytes maxL ret nm) (X : Stand p l e R s m args below meth c T locs cells slots) {pc n : Nat} {ls : Array Slot} {rest : List Value} {k : Fin 4} {v : Int32} (hd : decode bytes pc = .ok (.iload_n k, 1)) (hn : pc + 1 = n) (hl : ls[k.val]? = some (.val (.int v))) (k : Go p e below K (T.setTop (mkF m n ls (.int v :: rest)))) : Go p e below K (T.setTop (mkF m pc ls (rest))) := by
  subst hn
  exact Go.of (fun t q => XS.iloadN X.here C.hx rfl (hb C.hby hd) hl q) k
theorem Go.iload (C : Cx p s m meth c Z own bytes maxL ret nm) (X : Stand p l e R s m args below meth c T locs cells slots) {pc n : Nat} {ls : Array Slot} {rest : List Value} {k : Nat} {v : Int32} (hd : decode bytes pc = .ok (.iload k, 2)) (hn : pc + 2 = n) (hl : ls[k]? = some (.val (.int v))) (k : Go p e below K (T.setTop (mkF m n ls (.int v :: rest)))) : Go p e below K (T.setTop (mkF m pc ls (rest))) := by
  subst hn
  exact Go.of (fun t q => XS.iload X.here C.hx rfl (hb C.hby hd) hl q) k
theorem Go.istoreN (C : Cx p s m meth c Z own bytes maxL ret nm) (X : Stand p l e R s m args below meth c T locs cells slots) {pc n : Nat} {ls : Array Slot} {rest : List Value} {k : Fin 4} {v : Int32} {l' : Array Slot} (hd : decode bytes pc = .ok (.istore_n k, 1)) (hn : pc + 1 = n) (hl : storeLocals ls k.val (.int v) = some l') (k : Go p e below K (T.setTop (mkF m n l' (rest)))) : Go p e below K (T.setTop (mkF m pc ls (.int v :: rest))) := by
  subst hn
  exact Go.of (fun t q => XS.istoreN X.here C.hx rfl (hb C.hby hd) rfl hl q) k
theorem Go.istore (C : Cx p s m meth c Z own bytes maxL ret nm) (X : Stand p l e R s m args below meth c T locs cells slots) {pc n : Nat} {ls : Array Slot} {rest : List Value} {k : Nat} {v : Int32} {l' : Array Slot} (hd : decode bytes pc = .ok (.istore k, 2)) (hn : pc + 2 = n) (hl : storeLocals ls k (.int v) = some l') (k : Go p e below K (T.setTop (mkF m n l' (rest)))) : Go p e below K (T.setTop (mkF m pc ls (.int v :: rest))) := by
  subst hn
  exact Go.of (fun t q => XS.istore X.here C.hx rfl (hb C.hby hd) rfl hl q) k
theorem Go.lloadN (C : Cx p s m meth c Z own bytes maxL ret nm) (X : Stand p l e R s m args below meth c T locs cells slots) {pc n : Nat} {ls : Array Slot} {rest : List Value} {k : Fin 4} {v : Int64} (hd : decode bytes pc = .ok (.lload_n k, 1)) (hn : pc + 1 = n) (hl : ls[k.val]? = some (.val (.long v))) (k : Go p e below K (T.setTop (mkF m n ls (.long v :: rest)))) : Go p e below K (T.setTop (mkF m pc ls (rest))) := by
  subst hn
  exact Go.of (fun t q => XT.lloadN X.here C.hx rfl (hb C.hby hd) hl q) k
theorem Go.lload (C : Cx p s m meth c Z own bytes maxL ret nm) (X : Stand p l e R s m args below meth c T locs cells slots) {pc n : Nat} {ls : Array Slot} {rest : List Value} {k : Nat} {v : Int64} (hd : decode bytes pc = .ok (.lload k, 2)) (hn : pc + 2 = n) (hl : ls[k]? = some (.val (.long v))) (k : Go p e below K (T.setTop (mkF m n ls (.long v :: rest)))) : Go p e below K (T.setTop (mkF m pc ls (rest))) := by
  subst hn
  exact Go.of (fun t q => XT.lload X.here C.hx rfl (hb C.hby hd) hl q) k
theorem Go.lstoreN (C : Cx p s m meth c Z own bytes maxL ret nm) (X : Stand p l e R s m args below meth c T locs cells slots) {pc n : Nat} {ls : Array Slot} {rest : List Value} {k : Fin 4} {v : Int64} {l' : Array Slot} (hd : decode bytes pc = .ok (.lstore_n k, 1)) (hn : pc + 1 = n) (hl : storeLocals ls k.val (.long v) = some l') (k : Go p e below K (T.setTop (mkF m n l' (rest)))) : Go p e below K (T.setTop (mkF m pc ls (.long v :: rest))) := by
  subst hn
  exact Go.of (fun t q => XT.lstoreN X.here C.hx rfl (hb C.hby hd) rfl hl q) k
theorem Go.lstore (C : Cx p s m meth c Z own bytes maxL ret nm) (X : Stand p l e R s m args below meth c T locs cells slots) {pc n : Nat} {ls : Array Slot} {rest : List Value} {k : Nat} {v : Int64} {l' : Array Slot} (hd : decode bytes pc = .ok (.lstore k, 2)) (hn : pc + 2 = n) (hl : storeLocals ls k (.long v) = some l') (k : Go p e below K (T.setTop (mkF m n l' (rest)))) : Go p e below K (T.setTop (mkF m pc ls (.long v :: rest))) := by
  subst hn
  exact Go.of (fun t q => XT.lstore X.here C.hx rfl (hb C.hby hd) rfl hl q) k
theorem Go.aloadN (C : Cx p s m meth c Z own bytes maxL ret nm) (X : Stand p l e R s m args below meth c T locs cells slots) {pc n : Nat} {ls : Array Slot} {rest : List Value} {k : Fin 4} {v : Value} (hd : decode bytes pc = .ok (.aload_n k, 1)) (hn : pc + 1 = n) (hl : ls[k.val]? = some (.val v)) (hv : v.isRef = true) (k : Go p e below K (T.setTop (mkF m n ls (v :: rest)))) : Go p e below K (T.setTop (mkF m pc ls (rest))) := by
  subst hn
  exact Go.of (fun t q => XS.aloadN X.here C.hx rfl (hb C.hby hd) hl hv q) k
theorem Go.aload (C : Cx p s m meth c Z own bytes maxL ret nm) (X : Stand p l e R s m args below meth c T locs cells slots) {pc n : Nat} {ls : Array Slot} {rest : List Value} {k : Nat} {v : Value} (hd : decode bytes pc = .ok (.aload k, 2)) (hn : pc + 2 = n) (hl : ls[k]? = some (.val v)) (hv : v.isRef = true) (k : Go p e below K (T.setTop (mkF m n ls (v :: rest)))) : Go p e below K (T.setTop (mkF m pc ls (rest))) := by
  subst hn
  exact Go.of (fun t q => XS.aload X.here C.hx rfl (hb C.hby hd) hl hv q) k
theorem Go.astoreN (C : Cx p s m meth c Z own bytes maxL ret nm) (X : Stand p l e R s m args below meth c T locs cells slots) {pc n : Nat} {ls : Array Slot} {rest : List Value} {k : Fin 4} {v : Value} {l' : Array Slot} (hd : decode bytes pc = .ok (.astore_n k, 1)) (hn : pc + 1 = n) (hv : v.isRef = true) (hl : storeLocals ls k.val v = some l') (k : Go p e below K (T.setTop (mkF m n l' (rest)))) : Go p e below K (T.setTop (mkF m pc ls (v :: rest))) := by
  subst hn
  exact Go.of (fun t q => XS.astoreN X.here C.hx rfl (hb C.hby hd) rfl hv hl q) k
theorem Go.astore (C : Cx p s m meth c Z own bytes maxL ret nm) (X : Stand p l e R s m args below meth c T locs cells slots) {pc n : Nat} {ls : Array Slot} {rest : List Value} {k : Nat} {v : Value} {l' : Array Slot} (hd : decode bytes pc = .ok (.astore k, 2)) (hn : pc + 2 = n) (hv : v.isRef = true) (hl : storeLocals ls k v = some l') (k : Go p e below K (T.setTop (mkF m n l' (rest)))) : Go p e below K (T.setTop (mkF m pc ls (v :: rest))) := by
  subst hn
  exact Go.of (fun t q => XS.astore X.here C.hx rfl (hb C.hby hd) rfl hv hl q) k
theorem Go.iconst (C : Cx p s m meth c Z own bytes maxL ret nm) (X : Stand p l e R s m args below meth c T locs cells slots) {pc n : Nat} {ls : Array Slot} {rest : List Value} {i : Int} {v : Int32} (hd : decode bytes pc = .ok (.iconst i, 1)) (hn : pc + 1 = n) (hv : Int32.ofInt i = v) (k : Go p e below K (T.setTop (mkF m n ls (.int v :: rest)))) : Go p e below K (T.setTop (mkF m pc ls (rest))) := by
  subst hn
  exact Go.of (fun t q => XT.iconstV X.here C.hx rfl v (hb C.hby hd) hv q) k
theorem Go.bipush (C : Cx p s m meth c Z own bytes maxL ret nm) (X : Stand p l e R s m args below meth c T locs cells slots) {pc n : Nat} {ls : Array Slot} {rest : List Value} {i : Int} {v : Int32} (hd : decode bytes pc = .ok (.bipush i, 2)) (hn : pc + 2 = n) (hv : (Int8.ofInt i).toInt32 = v) (k : Go p e below K (T.setTop (mkF m n ls (.int v :: rest)))) : Go p e below K (T.setTop (mkF m pc ls (rest))) := by
  subst hn
  exact Go.of (fun t q => XT.bipushV X.here C.hx rfl v (hb C.hby hd) hv q) k
theorem Go.sipush (C : Cx p s m meth c Z own bytes maxL ret nm) (X : Stand p l e R s m args below meth c T locs cells slots) {pc n : Nat} {ls : Array Slot} {rest : List Value} {i : Int} {v : Int32} (hd : decode bytes pc = .ok (.sipush i, 3)) (hn : pc + 3 = n) (hv : (Int16.ofInt i).toInt32 = v) (k : Go p e below K (T.setTop (mkF m n ls (.int v :: rest)))) : Go p e below K (T.setTop (mkF m pc ls (rest))) := by
  subst hn
  exact Go.of (fun t q => XT.sipushV X.here C.hx rfl v (hb C.hby hd) hv q) k
theorem Go.lconst (C : Cx p s m meth c Z own bytes maxL ret nm) (X : Stand p l e R s m args below meth c T locs cells slots) {pc n : Nat} {ls : Array Slot} {rest : List Value} {i : Fin 2} {v : Int64} (hd : decode bytes pc = .ok (.lconst i, 1)) (hn : pc + 1 = n) (hv : Int64.ofNat i = v) (k : Go p e below K (T.setTop (mkF m n ls (.long v :: rest)))) : Go p e below K (T.setTop (mkF m pc ls (rest))) := by
  subst hn
  exact Go.of (fun t q => XT.lconstV X.here C.hx rfl v (hb C.hby hd) hv q) k
theorem Go.aconstNull (C : Cx p s m meth c Z own bytes maxL ret nm) (X : Stand p l e R s m args below meth c T locs cells slots) {pc n : Nat} {ls : Array Slot} {rest : List Value}  (hd : decode bytes pc = .ok (.aconst_null, 1)) (hn : pc + 1 = n) (k : Go p e below K (T.setTop (mkF m n ls (.null :: rest)))) : Go p e below K (T.setTop (mkF m pc ls (rest))) := by
  subst hn
  exact Go.of (fun t q => XS.aconstNull X.here C.hx rfl (hb C.hby hd) q) k
theorem Go.iadd (C : Cx p s m meth c Z own bytes maxL ret nm) (X : Stand p l e R s m args below meth c T locs cells slots) {pc n : Nat} {ls : Array Slot} {rest : List Value} {x y : Int32} (hd : decode bytes pc = .ok (.iadd, 1)) (hn : pc + 1 = n) (k : Go p e below K (T.setTop (mkF m n ls (.int (x + y) :: rest)))) : Go p e below K (T.setTop (mkF m pc ls (.int y :: .int x :: rest))) := by
  subst hn
  exact Go.of (fun t q => XS.iadd X.here C.hx rfl (hb C.hby hd) rfl q) k
theorem Go.ladd (C : Cx p s m meth c Z own bytes maxL ret nm) (X : Stand p l e R s m args below meth c T locs cells slots) {pc n : Nat} {ls : Array Slot} {rest : List Value} {x y : Int64} (hd : decode bytes pc = .ok (.ladd, 1)) (hn : pc + 1 = n) (k : Go p e below K (T.setTop (mkF m n ls (.long (x + y) :: rest)))) : Go p e below K (T.setTop (mkF m pc ls (.long y :: .long x :: rest))) := by
  subst hn
  exact Go.of (fun t q => XT.ladd X.here C.hx rfl (hb C.hby hd) rfl q) k
theorem Go.isub (C : Cx p s m meth c Z own bytes maxL ret nm) (X : Stand p l e R s m args below meth c T locs cells slots) {pc n : Nat} {ls : Array Slot} {rest : List Value} {x y : Int32} (hd : decode bytes pc = .ok (.isub, 1)) (hn : pc + 1 = n) (k : Go p e below K (T.setTop (mkF m n ls (.int (x - y) :: rest)))) : Go p e below K (T.setTop (mkF m pc ls (.int y :: .int x :: rest))) := by
  subst hn
  exact Go.of (fun t q => XS.isub X.here C.hx rfl (hb C.hby hd) rfl q) k
theorem Go.lsub (C : Cx p s m meth c Z own bytes maxL ret nm) (X : Stand p l e R s m args below meth c T locs cells slots) {pc n : Nat} {ls : Array Slot} {rest : List Value} {x y : Int64} (hd : decode bytes pc = .ok (.lsub, 1)) (hn : pc + 1 = n) (k : Go p e below K (T.setTop (mkF m n ls (.long (x - y) :: rest)))) : Go p e below K (T.setTop (mkF m pc ls (.long y :: .long x :: rest))) := by
  subst hn
  exact Go.of (fun t q => XT.lsub X.here C.hx rfl (hb C.hby hd) rfl q) k
theorem Go.imul (C : Cx p s m meth c Z own bytes maxL ret nm) (X : Stand p l e R s m args below meth c T locs cells slots) {pc n : Nat} {ls : Array Slot} {rest : List Value} {x y : Int32} (hd : decode bytes pc = .ok (.imul, 1)) (hn : pc + 1 = n) (k : Go p e below K (T.setTop (mkF m n ls (.int (x * y) :: rest)))) : Go p e below K (T.setTop (mkF m pc ls (.int y :: .int x :: rest))) := by
  subst hn
  exact Go.of (fun t q => XS.imul X.here C.hx rfl (hb C.hby hd) rfl q) k
theorem Go.lmul (C : Cx p s m meth c Z own bytes maxL ret nm) (X : Stand p l e R s m args below meth c T locs cells slots) {pc n : Nat} {ls : Array Slot} {rest : List Value} {x y : Int64} (hd : decode bytes pc = .ok (.lmul, 1)) (hn : pc + 1 = n) (k : Go p e below K (T.setTop (mkF m n ls (.long (x * y) :: rest)))) : Go p e below K (T.setTop (mkF m pc ls (.long y :: .long x :: rest))) := by
  subst hn
  exact Go.of (fun t q => XT.lmul X.here C.hx rfl (hb C.hby hd) rfl q) k
theorem Go.iand (C : Cx p s m meth c Z own bytes maxL ret nm) (X : Stand p l e R s m args below meth c T locs cells slots) {pc n : Nat} {ls : Array Slot} {rest : List Value} {x y : Int32} (hd : decode bytes pc = .ok (.iand, 1)) (hn : pc + 1 = n) (k : Go p e below K (T.setTop (mkF m n ls (.int (x &&& y) :: rest)))) : Go p e below K (T.setTop (mkF m pc ls (.int y :: .int x :: rest))) := by
  subst hn
  exact Go.of (fun t q => XS.iand X.here C.hx rfl (hb C.hby hd) rfl q) k
theorem Go.land (C : Cx p s m meth c Z own bytes maxL ret nm) (X : Stand p l e R s m args below meth c T locs cells slots) {pc n : Nat} {ls : Array Slot} {rest : List Value} {x y : Int64} (hd : decode bytes pc = .ok (.land, 1)) (hn : pc + 1 = n) (k : Go p e below K (T.setTop (mkF m n ls (.long (x &&& y) :: rest)))) : Go p e below K (T.setTop (mkF m pc ls (.long y :: .long x :: rest))) := by
  subst hn
  exact Go.of (fun t q => XT.land X.here C.hx rfl (hb C.hby hd) rfl q) k
theorem Go.ior (C : Cx p s m meth c Z own bytes maxL ret nm) (X : Stand p l e R s m args below meth c T locs cells slots) {pc n : Nat} {ls : Array Slot} {rest : List Value} {x y : Int32} (hd : decode bytes pc = .ok (.ior, 1)) (hn : pc + 1 = n) (k : Go p e below K (T.setTop (mkF m n ls (.int (x ||| y) :: rest)))) : Go p e below K (T.setTop (mkF m pc ls (.int y :: .int x :: rest))) := by
  subst hn
  exact Go.of (fun t q => XT.ior X.here C.hx rfl (hb C.hby hd) rfl q) k
theorem Go.lor (C : Cx p s m meth c Z own bytes maxL ret nm) (X : Stand p l e R s m args below meth c T locs cells slots) {pc n : Nat} {ls : Array Slot} {rest : List Value} {x y : Int64} (hd : decode bytes pc = .ok (.lor, 1)) (hn : pc + 1 = n) (k : Go p e below K (T.setTop (mkF m n ls (.long (x ||| y) :: rest)))) : Go p e below K (T.setTop (mkF m pc ls (.long y :: .long x :: rest))) := by
  subst hn
  exact Go.of (fun t q => XT.lor X.here C.hx rfl (hb C.hby hd) rfl q) k
theorem Go.ixor (C : Cx p s m meth c Z own bytes maxL ret nm) (X : Stand p l e R s m args below meth c T locs cells slots) {pc n : Nat} {ls : Array Slot} {rest : List Value} {x y : Int32} (hd : decode bytes pc = .ok (.ixor, 1)) (hn : pc + 1 = n) (k : Go p e below K (T.setTop (mkF m n ls (.int (x ^^^ y) :: rest)))) : Go p e below K (T.setTop (mkF m pc ls (.int y :: .int x :: rest))) := by
  subst hn
  exact Go.of (fun t q => XT.ixor X.here C.hx rfl (hb C.hby hd) rfl q) k
theorem Go.lxor (C : Cx p s m meth c Z own bytes maxL ret nm) (X : Stand p l e R s m args below meth c T locs cells slots) {pc n : Nat} {ls : Array Slot} {rest : List Value} {x y : Int64} (hd : decode bytes pc = .ok (.lxor, 1)) (hn : pc + 1 = n) (k : Go p e below K (T.setTop (mkF m n ls (.long (x ^^^ y) :: rest)))) : Go p e below K (T.setTop (mkF m pc ls (.long y :: .long x :: rest))) := by
  subst hn
  exact Go.of (fun t q => XT.lxor X.here C.hx rfl (hb C.hby hd) rfl q) k
theorem Go.ishl (C : Cx p s m meth c Z own bytes maxL ret nm) (X : Stand p l e R s m args below meth c T locs cells slots) {pc n : Nat} {ls : Array Slot} {rest : List Value} {x y : Int32} (hd : decode bytes pc = .ok (.ishl, 1)) (hn : pc + 1 = n) (k : Go p e below K (T.setTop (mkF m n ls (.int (x <<< (y &&& 31)) :: rest)))) : Go p e below K (T.setTop (mkF m pc ls (.int y :: .int x :: rest))) := by
  subst hn
  exact Go.of (fun t q => XT.ishl X.here C.hx rfl (hb C.hby hd) rfl q) k
theorem Go.ishr (C : Cx p s m meth c Z own bytes maxL ret nm) (X : Stand p l e R s m args below meth c T locs cells slots) {pc n : Nat} {ls : Array Slot} {rest : List Value} {x y : Int32} (hd : decode bytes pc = .ok (.ishr, 1)) (hn : pc + 1 = n) (k : Go p e below K (T.setTop (mkF m n ls (.int (x >>> (y &&& 31)) :: rest)))) : Go p e below K (T.setTop (mkF m pc ls (.int y :: .int x :: rest))) := by
  subst hn
  exact Go.of (fun t q => XT.ishr X.here C.hx rfl (hb C.hby hd) rfl q) k
theorem Go.iushr (C : Cx p s m meth c Z own bytes maxL ret nm) (X : Stand p l e R s m args below meth c T locs cells slots) {pc n : Nat} {ls : Array Slot} {rest : List Value} {x y : Int32} (hd : decode bytes pc = .ok (.iushr, 1)) (hn : pc + 1 = n) (k : Go p e below K (T.setTop (mkF m n ls (.int (XT.ushr x y) :: rest)))) : Go p e below K (T.setTop (mkF m pc ls (.int y :: .int x :: rest))) := by
  subst hn
  exact Go.of (fun t q => XT.iushr X.here C.hx rfl (hb C.hby hd) rfl q) k
theorem Go.idiv (C : Cx p s m meth c Z own bytes maxL ret nm) (X : Stand p l e R s m args below meth c T locs cells slots) {pc n : Nat} {ls : Array Slot} {rest : List Value} {x y : Int32} (hd : decode bytes pc = .ok (.idiv, 1)) (hn : pc + 1 = n) (hy : y ≠ 0) (k : Go p e below K (T.setTop (mkF m n ls (.int (x / y) :: rest)))) : Go p e below K (T.setTop (mkF m pc ls (.int y :: .int x :: rest))) := by
  subst hn
  exact Go.of (fun t q => XS.idiv X.here C.hx rfl (hb C.hby hd) rfl hy q) k
theorem Go.irem (C : Cx p s m meth c Z own bytes maxL ret nm) (X : Stand p l e R s m args below meth c T locs cells slots) {pc n : Nat} {ls : Array Slot} {rest : List Value} {x y : Int32} (hd : decode bytes pc = .ok (.irem, 1)) (hn : pc + 1 = n) (hy : y ≠ 0) (k : Go p e below K (T.setTop (mkF m n ls (.int (x % y) :: rest)))) : Go p e below K (T.setTop (mkF m pc ls (.int y :: .int x :: rest))) := by
  subst hn
  exact Go.of (fun t q => iremM X C.hx rfl (hb C.hby hd) rfl hy q) k
theorem Go.ldiv (C : Cx p s m meth c Z own bytes maxL ret nm) (X : Stand p l e R s m args below meth c T locs cells slots) {pc n : Nat} {ls : Array Slot} {rest : List Value} {x y : Int64} (hd : decode bytes pc = .ok (.ldiv, 1)) (hn : pc + 1 = n) (hy : y ≠ 0) (k : Go p e below K (T.setTop (mkF m n ls (.long (x / y) :: rest)))) : Go p e below K (T.setTop (mkF m pc ls (.long y :: .long x :: rest))) := by
  subst hn
  exact Go.of (fun t q => XT.ldiv X.here C.hx rfl (hb C.hby hd) rfl hy q) k
theorem Go.lrem (C : Cx p s m meth c Z own bytes maxL ret nm) (X : Stand p l e R s m args below meth c T locs cells slots) {pc n : Nat} {ls : Array Slot} {rest : List Value} {x y : Int64} (hd : decode bytes pc = .ok (.lrem, 1)) (hn : pc + 1 = n) (hy : y ≠ 0) (k : Go p e below K (T.setTop (mkF m n ls (.long (x - (x / y) * y) :: rest)))) : Go p e below K (T.setTop (mkF m pc ls (.long y :: .long x :: rest))) := by
  subst hn
  exact Go.of (fun t q => XT.lrem X.here C.hx rfl (hb C.hby hd) rfl hy q) k
theorem Go.ineg (C : Cx p s m meth c Z own bytes maxL ret nm) (X : Stand p l e R s m args below meth c T locs cells slots) {pc n : Nat} {ls : Array Slot} {rest : List Value} {x : Int32} (hd : decode bytes pc = .ok (.ineg, 1)) (hn : pc + 1 = n) (k : Go p e below K (T.setTop (mkF m n ls (.int (-x) :: rest)))) : Go p e below K (T.setTop (mkF m pc ls (.int x :: rest))) := by
  subst hn
  exact Go.of (fun t q => XS.ineg X.here C.hx rfl (hb C.hby hd) rfl q) k
theorem Go.i2l (C : Cx p s m meth c Z own bytes maxL ret nm) (X : Stand p l e R s m args below meth c T locs cells slots) {pc n : Nat} {ls : Array Slot} {rest : List Value} {x : Int32} (hd : decode bytes pc = .ok (.i2l, 1)) (hn : pc + 1 = n) (k : Go p e below K (T.setTop (mkF m n ls (.long (x.toInt64) :: rest)))) : Go p e below K (T.setTop (mkF m pc ls (.int x :: rest))) := by
  subst hn
  exact Go.of (fun t q => XT.i2l X.here C.hx rfl (hb C.hby hd) rfl q) k
theorem Go.i2b (C : Cx p s m meth c Z own bytes maxL ret nm) (X : Stand p l e R s m args below meth c T locs cells slots) {pc n : Nat} {ls : Array Slot} {rest : List Value} {x : Int32} (hd : decode bytes pc = .ok (.i2b, 1)) (hn : pc + 1 = n) (k : Go p e below K (T.setTop (mkF m n ls (.int (x.toInt8.toInt32) :: rest)))) : Go p e below K (T.setTop (mkF m pc ls (.int x :: rest))) := by
  subst hn
  exact Go.of (fun t q => XT.i2b X.here C.hx rfl (hb C.hby hd) rfl q) k
theorem Go.i2c (C : Cx p s m meth c Z own bytes maxL ret nm) (X : Stand p l e R s m args below meth c T locs cells slots) {pc n : Nat} {ls : Array Slot} {rest : List Value} {x : Int32} (hd : decode bytes pc = .ok (.i2c, 1)) (hn : pc + 1 = n) (k : Go p e below K (T.setTop (mkF m n ls (.int (x.toUInt32.toUInt16.toUInt32.toInt32) :: rest)))) : Go p e below K (T.setTop (mkF m pc ls (.int x :: rest))) := by
  subst hn
  exact Go.of (fun t q => XT.i2c X.here C.hx rfl (hb C.hby hd) rfl q) k
theorem Go.i2s (C : Cx p s m meth c Z own bytes maxL ret nm) (X : Stand p l e R s m args below meth c T locs cells slots) {pc n : Nat} {ls : Array Slot} {rest : List Value} {x : Int32} (hd : decode bytes pc = .ok (.i2s, 1)) (hn : pc + 1 = n) (k : Go p e below K (T.setTop (mkF m n ls (.int (x.toInt16.toInt32) :: rest)))) : Go p e below K (T.setTop (mkF m pc ls (.int x :: rest))) := by
  subst hn
  exact Go.of (fun t q => XT.i2s X.here C.hx rfl (hb C.hby hd) rfl q) k
theorem Go.l2i (C : Cx p s m meth c Z own bytes maxL ret nm) (X : Stand p l e R s m args below meth c T locs cells slots) {pc n : Nat} {ls : Array Slot} {rest : List Value} {x : Int64} (hd : decode bytes pc = .ok (.l2i, 1)) (hn : pc + 1 = n) (k : Go p e below K (T.setTop (mkF m n ls (.int (x.toInt32) :: rest)))) : Go p e below K (T.setTop (mkF m pc ls (.long x :: rest))) := by
  subst hn
  exact Go.of (fun t q => XT.l2i X.here C.hx rfl (hb C.hby hd) rfl q) k
theorem Go.lcmp (C : Cx p s m meth c Z own bytes maxL ret nm) (X : Stand p l e R s m args below meth c T locs cells slots) {pc n : Nat} {ls : Array Slot} {rest : List Value} {x y : Int64} (hd : decode bytes pc = .ok (.lcmp, 1)) (hn : pc + 1 = n) (k : Go p e below K (T.setTop (mkF m n ls (.int (XT.cmpL x y) :: rest)))) : Go p e below K (T.setTop (mkF m pc ls (.long y :: .long x :: rest))) := by
  subst hn
  exact Go.of (fun t q => XT.lcmp X.here C.hx rfl (hb C.hby hd) rfl q) k
theorem Go.iinc (C : Cx p s m meth c Z own bytes maxL ret nm) (X : Stand p l e R s m args below meth c T locs cells slots) {pc n : Nat} {ls : Array Slot} {rest : List Value} {k : Nat} {cst : Int} {x v : Int32} {l' : Array Slot} (hd : decode bytes pc = .ok (.iinc k cst, 3)) (hn : pc + 3 = n) (hv : Int32.ofInt cst = v) (hl : ls[k]? = some (.val (.int x))) (hl' : storeLocals ls k (.int (x + v)) = some l') (k : Go p e below K (T.setTop (mkF m n l' (rest)))) : Go p e below K (T.setTop (mkF m pc ls (rest))) := by
  subst hn
  exact Go.of (fun t q => XT.iincV X.here C.hx rfl v (hb C.hby hd) hv hl hl' q) k
theorem Go.dup (C : Cx p s m meth c Z own bytes maxL ret nm) (X : Stand p l e R s m args below meth c T locs cells slots) {pc n : Nat} {ls : Array Slot} {rest : List Value} {x : Value} (hd : decode bytes pc = .ok (.dup, 1)) (hn : pc + 1 = n) (hc : x.category = 1) (k : Go p e below K (T.setTop (mkF m n ls (x :: x :: rest)))) : Go p e below K (T.setTop (mkF m pc ls (x :: rest))) := by
  subst hn
  exact Go.of (fun t q => XS.dup X.here C.hx rfl (hb C.hby hd) rfl hc q) k
theorem Go.dupX1 (C : Cx p s m meth c Z own bytes maxL ret nm) (X : Stand p l e R s m args below meth c T locs cells slots) {pc n : Nat} {ls : Array Slot} {rest : List Value} {x y : Value} (hd : decode bytes pc = .ok (.dup_x1, 1)) (hn : pc + 1 = n) (hc : x.category = 1) (hc' : y.category = 1) (k : Go p e below K (T.setTop (mkF m n ls (x :: y :: x :: rest)))) : Go p e below K (T.setTop (mkF m pc ls (x :: y :: rest))) := by
  subst hn
  exact Go.of (fun t q => XT.dupX1 X.here C.hx rfl (hb C.hby hd) rfl hc hc' q) k
theorem Go.dup2 (C : Cx p s m meth c Z own bytes maxL ret nm) (X : Stand p l e R s m args below meth c T locs cells slots) {pc n : Nat} {ls : Array Slot} {rest : List Value} {x y : Value} (hd : decode bytes pc = .ok (.dup2, 1)) (hn : pc + 1 = n) (hc : x.category = 1) (hc' : y.category = 1) (k : Go p e below K (T.setTop (mkF m n ls (x :: y :: x :: y :: rest)))) : Go p e below K (T.setTop (mkF m pc ls (x :: y :: rest))) := by
  subst hn
  exact Go.of (fun t q => XT.dup2 X.here C.hx rfl (hb C.hby hd) rfl hc hc' q) k
theorem Go.pop (C : Cx p s m meth c Z own bytes maxL ret nm) (X : Stand p l e R s m args below meth c T locs cells slots) {pc n : Nat} {ls : Array Slot} {rest : List Value} {x : Value} (hd : decode bytes pc = .ok (.pop, 1)) (hn : pc + 1 = n) (hc : x.category = 1) (k : Go p e below K (T.setTop (mkF m n ls (rest)))) : Go p e below K (T.setTop (mkF m pc ls (x :: rest))) := by
  subst hn
  exact Go.of (fun t q => XT.pop X.here C.hx rfl (hb C.hby hd) rfl hc q) k
theorem Go.dupX2 (C : Cx p s m meth c Z own bytes maxL ret nm) (X : Stand p l e R s m args below meth c T locs cells slots) {pc n : Nat} {ls : Array Slot} {rest : List Value} {x y z : Value} (hd : decode bytes pc = .ok (.dup_x2, 1)) (hn : pc + 1 = n) (hc : x.category = 1) (hc' : y.category = 1) (hc'' : z.category = 1) (k : Go p e below K (T.setTop (mkF m n ls (x :: y :: z :: x :: rest)))) : Go p e below K (T.setTop (mkF m pc ls (x :: y :: z :: rest))) := by
  subst hn
  exact Go.of (fun t q => by jvm_step X.here [X.here.top, C.hx, (hb C.hby hd), hc, hc', hc'']; exact q) k
theorem Go.goto (C : Cx p s m meth c Z own bytes maxL ret nm) (X : Stand p l e R s m args below meth c T locs cells slots) {pc n : Nat} {ls : Array Slot} {rest : List Value} {o : Int} (hd : decode bytes pc = .ok (.goto o, 3)) (ho : 0 ≤ (pc : Int) + o) (hn : ((pc : Int) + o).toNat = n) (k : Go p e below K (T.setTop (mkF m n ls rest))) : Go p e below K (T.setTop (mkF m pc ls rest)) :=
  Go.of (fun t q => XS.goto X.here C.hx rfl rfl (hb C.hby hd) ho hn q) k
theorem Go.ldcI (C : Cx p s m meth c Z own bytes maxL ret nm) (X : Stand p l e R s m args below meth c T locs cells slots) {pc n : Nat} {ls : Array Slot} {rest : List Value} {index : Nat} {v : Int32} (w : (Cond.constant own index v).before a0 Z = true) (hd : decode bytes pc = .ok (.ldc index, 2)) (hn : pc + 2 = n) (k : Go p e below K (T.setTop (mkF m n ls (.int v :: rest)))) : Go p e below K (T.setTop (mkF m pc ls rest)) := by
  subst hn
  exact Go.of (fun t q => Jvm.Stand.ldcI X C.hx C.hown (mv C.hZ w) rfl (hb C.hby hd) q) k
theorem Go.icmp_eq (C : Cx p s m meth c Z own bytes maxL ret nm) (X : Stand p l e R s m args below meth c T locs cells slots) {pc n1 n2 : Nat} {ls : Array Slot} {rest : List Value} {x y : Int32} {o : Int} (hd : decode bytes pc = .ok (.if_icmp .eq o, 3)) (ho : 0 ≤ (pc : Int) + o) (h1 : ((pc : Int) + o).toNat = n1) (h2 : pc + 3 = n2)
    (ky : x = y → Go p e below K (T.setTop (mkF m n1 ls rest))) (kn : ¬ x = y → Go p e below K (T.setTop (mkF m n2 ls rest))) : Go p e below K (T.setTop (mkF m pc ls (.int y :: .int x :: rest))) := by
  subst h2
  by_cases q : x = y
  · exact Go.of (fun t z => XS.icmpYes X.here C.hx rfl rfl (hb C.hby hd) rfl (XT.ii_eq_t q) ho h1 z) (ky q)
  · exact Go.of (fun t z => XS.icmpNo X.here C.hx rfl (hb C.hby hd) rfl (XT.ii_eq_f q) z) (kn q)
theorem Go.if0_eq (C : Cx p s m meth c Z own bytes maxL ret nm) (X : Stand p l e R s m args below meth c T locs cells slots) {pc n1 n2 : Nat} {ls : Array Slot} {rest : List Value} {x : Int32} {o : Int} (hd : decode bytes pc = .ok (.ifCond .eq o, 3)) (ho : 0 ≤ (pc : Int) + o) (h1 : ((pc : Int) + o).toNat = n1) (h2 : pc + 3 = n2)
    (ky : x = 0 → Go p e below K (T.setTop (mkF m n1 ls rest))) (kn : ¬ x = 0 → Go p e below K (T.setTop (mkF m n2 ls rest))) : Go p e below K (T.setTop (mkF m pc ls (.int x :: rest))) := by
  subst h2
  by_cases q : x = 0
  · exact Go.of (fun t z => XS.ifYes X.here C.hx rfl rfl (hb C.hby hd) rfl (XT.i0_eq_t q) ho h1 z) (ky q)
  · exact Go.of (fun t z => XS.ifNo X.here C.hx rfl (hb C.hby hd) rfl (XT.i0_eq_f q) z) (kn q)
theorem Go.lcmp_eq (C : Cx p s m meth c Z own bytes maxL ret nm) (X : Stand p l e R s m args below meth c T locs cells slots) {pc n1 n2 : Nat} {ls : Array Slot} {rest : List Value} {x y : Int64} {o : Int} (hd : decode bytes pc = .ok (.ifCond .eq o, 3)) (ho : 0 ≤ (pc : Int) + o) (h1 : ((pc : Int) + o).toNat = n1) (h2 : pc + 3 = n2)
    (ky : x = y → Go p e below K (T.setTop (mkF m n1 ls rest))) (kn : ¬ x = y → Go p e below K (T.setTop (mkF m n2 ls rest))) : Go p e below K (T.setTop (mkF m pc ls (.int (XT.cmpL x y) :: rest))) := by
  subst h2
  by_cases q : x = y
  · exact Go.of (fun t z => XS.ifYes X.here C.hx rfl rfl (hb C.hby hd) rfl (XT.ll_eq_t q) ho h1 z) (ky q)
  · exact Go.of (fun t z => XS.ifNo X.here C.hx rfl (hb C.hby hd) rfl (XT.ll_eq_f q) z) (kn q)
theorem Go.icmp_ne (C : Cx p s m meth c Z own bytes maxL ret nm) (X : Stand p l e R s m args below meth c T locs cells slots) {pc n1 n2 : Nat} {ls : Array Slot} {rest : List Value} {x y : Int32} {o : Int} (hd : decode bytes pc = .ok (.if_icmp .ne o, 3)) (ho : 0 ≤ (pc : Int) + o) (h1 : ((pc : Int) + o).toNat = n1) (h2 : pc + 3 = n2)
    (ky : ¬ x = y → Go p e below K (T.setTop (mkF m n1 ls rest))) (kn : x = y → Go p e below K (T.setTop (mkF m n2 ls rest))) : Go p e below K (T.setTop (mkF m pc ls (.int y :: .int x :: rest))) := by
  subst h2
  by_cases q : x = y
  · exact Go.of (fun t z => XS.icmpNo X.here C.hx rfl (hb C.hby hd) rfl (XT.ii_ne_f q) z) (kn q)
  · exact Go.of (fun t z => XS.icmpYes X.here C.hx rfl rfl (hb C.hby hd) rfl (XT.ii_ne_t q) ho h1 z) (ky q)
theorem Go.if0_ne (C : Cx p s m meth c Z own bytes maxL ret nm) (X : Stand p l e R s m args below meth c T locs cells slots) {pc n1 n2 : Nat} {ls : Array Slot} {rest : List Value} {x : Int32} {o : Int} (hd : decode bytes pc = .ok (.ifCond .ne o, 3)) (ho : 0 ≤ (pc : Int) + o) (h1 : ((pc : Int) + o).toNat = n1) (h2 : pc + 3 = n2)
    (ky : ¬ x = 0 → Go p e below K (T.setTop (mkF m n1 ls rest))) (kn : x = 0 → Go p e below K (T.setTop (mkF m n2 ls rest))) : Go p e below K (T.setTop (mkF m pc ls (.int x :: rest))) := by
  subst h2
  by_cases q : x = 0
  · exact Go.of (fun t z => XS.ifNo X.here C.hx rfl (hb C.hby hd) rfl (XT.i0_ne_f q) z) (kn q)
  · exact Go.of (fun t z => XS.ifYes X.here C.hx rfl rfl (hb C.hby hd) rfl (XT.i0_ne_t q) ho h1 z) (ky q)
theorem Go.lcmp_ne (C : Cx p s m meth c Z own bytes maxL ret nm) (X : Stand p l e R s m args below meth c T locs cells slots) {pc n1 n2 : Nat} {ls : Array Slot} {rest : List Value} {x y : Int64} {o : Int} (hd : decode bytes pc = .ok (.ifCond .ne o, 3)) (ho : 0 ≤ (pc : Int) + o) (h1 : ((pc : Int) + o).toNat = n1) (h2 : pc + 3 = n2)
    (ky : ¬ x = y → Go p e below K (T.setTop (mkF m n1 ls rest))) (kn : x = y → Go p e below K (T.setTop (mkF m n2 ls rest))) : Go p e below K (T.setTop (mkF m pc ls (.int (XT.cmpL x y) :: rest))) := by
  subst h2
  by_cases q : x = y
  · exact Go.of (fun t z => XS.ifNo X.here C.hx rfl (hb C.hby hd) rfl (XT.ll_ne_f q) z) (kn q)
  · exact Go.of (fun t z => XS.ifYes X.here C.hx rfl rfl (hb C.hby hd) rfl (XT.ll_ne_t q) ho h1 z) (ky q)
theorem Go.icmp_lt (C : Cx p s m meth c Z own bytes maxL ret nm) (X : Stand p l e R s m args below meth c T locs cells slots) {pc n1 n2 : Nat} {ls : Array Slot} {rest : List Value} {x y : Int32} {o : Int} (hd : decode bytes pc = .ok (.if_icmp .lt o, 3)) (ho : 0 ≤ (pc : Int) + o) (h1 : ((pc : Int) + o).toNat = n1) (h2 : pc + 3 = n2)
    (ky : x < y → Go p e below K (T.setTop (mkF m n1 ls rest))) (kn : ¬ x < y → Go p e below K (T.setTop (mkF m n2 ls rest))) : Go p e below K (T.setTop (mkF m pc ls (.int y :: .int x :: rest))) := by
  subst h2
  by_cases q : x < y
  · exact Go.of (fun t z => XS.icmpYes X.here C.hx rfl rfl (hb C.hby hd) rfl (XT.ii_lt_t q) ho h1 z) (ky q)
  · exact Go.of (fun t z => XS.icmpNo X.here C.hx rfl (hb C.hby hd) rfl (XT.ii_lt_f q) z) (kn q)
theorem Go.if0_lt (C : Cx p s m meth c Z own bytes maxL ret nm) (X : Stand p l e R s m args below meth c T locs cells slots) {pc n1 n2 : Nat} {ls : Array Slot} {rest : List Value} {x : Int32} {o : Int} (hd : decode bytes pc = .ok (.ifCond .lt o, 3)) (ho : 0 ≤ (pc : Int) + o) (h1 : ((pc : Int) + o).toNat = n1) (h2 : pc + 3 = n2)
    (ky : x < 0 → Go p e below K (T.setTop (mkF m n1 ls rest))) (kn : ¬ x < 0 → Go p e below K (T.setTop (mkF m n2 ls rest))) : Go p e below K (T.setTop (mkF m pc ls (.int x :: rest))) := by
  subst h2
  by_cases q : x < 0
  · exact Go.of (fun t z => XS.ifYes X.here C.hx rfl rfl (hb C.hby hd) rfl (XT.i0_lt_t q) ho h1 z) (ky q)
  · exact Go.of (fun t z => XS.ifNo X.here C.hx rfl (hb C.hby hd) rfl (XT.i0_lt_f q) z) (kn q)
theorem Go.lcmp_lt (C : Cx p s m meth c Z own bytes maxL ret nm) (X : Stand p l e R s m args below meth c T locs cells slots) {pc n1 n2 : Nat} {ls : Array Slot} {rest : List Value} {x y : Int64} {o : Int} (hd : decode bytes pc = .ok (.ifCond .lt o, 3)) (ho : 0 ≤ (pc : Int) + o) (h1 : ((pc : Int) + o).toNat = n1) (h2 : pc + 3 = n2)
    (ky : x < y → Go p e below K (T.setTop (mkF m n1 ls rest))) (kn : ¬ x < y → Go p e below K (T.setTop (mkF m n2 ls rest))) : Go p e below K (T.setTop (mkF m pc ls (.int (XT.cmpL x y) :: rest))) := by
  subst h2
  by_cases q : x < y
  · exact Go.of (fun t z => XS.ifYes X.here C.hx rfl rfl (hb C.hby hd) rfl (XT.ll_lt_t q) ho h1 z) (ky q)
  · exact Go.of (fun t z => XS.ifNo X.here C.hx rfl (hb C.hby hd) rfl (XT.ll_lt_f q) z) (kn q)
theorem Go.icmp_ge (C : Cx p s m meth c Z own bytes maxL ret nm) (X : Stand p l e R s m args below meth c T locs cells slots) {pc n1 n2 : Nat} {ls : Array Slot} {rest : List Value} {x y : Int32} {o : Int} (hd : decode bytes pc = .ok (.if_icmp .ge o, 3)) (ho : 0 ≤ (pc : Int) + o) (h1 : ((pc : Int) + o).toNat = n1) (h2 : pc + 3 = n2)
    (ky : ¬ x < y → Go p e below K (T.setTop (mkF m n1 ls rest))) (kn : x < y → Go p e below K (T.setTop (mkF m n2 ls rest))) : Go p e below K (T.setTop (mkF m pc ls (.int y :: .int x :: rest))) := by
  subst h2
  by_cases q : x < y
  · exact Go.of (fun t z => XS.icmpNo X.here C.hx rfl (hb C.hby hd) rfl (XT.ii_ge_f q) z) (kn q)
  · exact Go.of (fun t z => XS.icmpYes X.here C.hx rfl rfl (hb C.hby hd) rfl (XT.ii_ge_t q) ho h1 z) (ky q)
theorem Go.if0_ge (C : Cx p s m meth c Z own bytes maxL ret nm) (X : Stand p l e R s m args below meth c T locs cells slots) {pc n1 n2 : Nat} {ls : Array Slot} {rest : List Value} {x : Int32} {o : Int} (hd : decode bytes pc = .ok (.ifCond .ge o, 3)) (ho : 0 ≤ (pc : Int) + o) (h1 : ((pc : Int) + o).toNat = n1) (h2 : pc + 3 = n2)
    (ky : ¬ x < 0 → Go p e below K (T.setTop (mkF m n1 ls rest))) (kn : x < 0 → Go p e below K (T.setTop (mkF m n2 ls rest))) : Go p e below K (T.setTop (mkF m pc ls (.int x :: rest))) := by
  subst h2
  by_cases q : x < 0
  · exact Go.of (fun t z => XS.ifNo X.here C.hx rfl (hb C.hby hd) rfl (XT.i0_ge_f q) z) (kn q)
  · exact Go.of (fun t z => XS.ifYes X.here C.hx rfl rfl (hb C.hby hd) rfl (XT.i0_ge_t q) ho h1 z) (ky q)
theorem Go.lcmp_ge (C : Cx p s m meth c Z own bytes maxL ret nm) (X : Stand p l e R s m args below meth c T locs cells slots) {pc n1 n2 : Nat} {ls : Array Slot} {rest : List Value} {x y : Int64} {o : Int} (hd : decode bytes pc = .ok (.ifCond .ge o, 3)) (ho : 0 ≤ (pc : Int) + o) (h1 : ((pc : Int) + o).toNat = n1) (h2 : pc + 3 = n2)
    (ky : ¬ x < y → Go p e below K (T.setTop (mkF m n1 ls rest))) (kn : x < y → Go p e below K (T.setTop (mkF m n2 ls rest))) : Go p e below K (T.setTop (mkF m pc ls (.int (XT.cmpL x y) :: rest))) := by
  subst h2
  by_cases q : x < y
  · exact Go.of (fun t z => XS.ifNo X.here C.hx rfl (hb C.hby hd) rfl (XT.ll_ge_f q) z) (kn q)
  · exact Go.of (fun t z => XS.ifYes X.here C.hx rfl rfl (hb C.hby hd) rfl (XT.ll_ge_t q) ho h1 z) (ky q)
theorem Go.icmp_gt (C : Cx p s m meth c Z own bytes maxL ret nm) (X : Stand p l e R s m args below meth c T locs cells slots) {pc n1 n2 : Nat} {ls : Array Slot} {rest : List Value} {x y : Int32} {o : Int} (hd : decode bytes pc = .ok (.if_icmp .gt o, 3)) (ho : 0 ≤ (pc : Int) + o) (h1 : ((pc : Int) + o).toNat = n1) (h2 : pc + 3 = n2)
    (ky : y < x → Go p e below K (T.setTop (mkF m n1 ls rest))) (kn : ¬ y < x → Go p e below K (T.setTop (mkF m n2 ls rest))) : Go p e below K (T.setTop (mkF m pc ls (.int y :: .int x :: rest))) := by
  subst h2
  by_cases q : y < x
  · exact Go.of (fun t z => XS.icmpYes X.here C.hx rfl rfl (hb C.hby hd) rfl (XT.ii_gt_t q) ho h1 z) (ky q)
  · exact Go.of (fun t z => XS.icmpNo X.here C.hx rfl (hb C.hby hd) rfl (XT.ii_gt_f q) z) (kn q)
theorem Go.if0_gt (C : Cx p s m meth c Z own bytes maxL ret nm) (X : Stand p l e R s m args below meth c T locs cells slots) {pc n1 n2 : Nat} {ls : Array Slot} {rest : List Value} {x : Int32} {o : Int} (hd : decode bytes pc = .ok (.ifCond .gt o, 3)) (ho : 0 ≤ (pc : Int) + o) (h1 : ((pc : Int) + o).toNat = n1) (h2 : pc + 3 = n2)
    (ky : 0 < x → Go p e below K (T.setTop (mkF m n1 ls rest))) (kn : ¬ 0 < x → Go p e below K (T.setTop (mkF m n2 ls rest))) : Go p e below K (T.setTop (mkF m pc ls (.int x :: rest))) := by
  subst h2
  by_cases q : 0 < x
  · exact Go.of (fun t z => XS.ifYes X.here C.hx rfl rfl (hb C.hby hd) rfl (XT.i0_gt_t q) ho h1 z) (ky q)
  · exact Go.of (fun t z => XS.ifNo X.here C.hx rfl (hb C.hby hd) rfl (XT.i0_gt_f q) z) (kn q)
theorem Go.lcmp_gt (C : Cx p s m meth c Z own bytes maxL ret nm) (X : Stand p l e R s m args below meth c T locs cells slots) {pc n1 n2 : Nat} {ls : Array Slot} {rest : List Value} {x y : Int64} {o : Int} (hd : decode bytes pc = .ok (.ifCond .gt o, 3)) (ho : 0 ≤ (pc : Int) + o) (h1 : ((pc : Int) + o).toNat = n1) (h2 : pc + 3 = n2)
    (ky : y < x → Go p e below K (T.setTop (mkF m n1 ls rest))) (kn : ¬ y < x → Go p e below K (T.setTop (mkF m n2 ls rest))) : Go p e below K (T.setTop (mkF m pc ls (.int (XT.cmpL x y) :: rest))) := by
  subst h2
  by_cases q : y < x
  · exact Go.of (fun t z => XS.ifYes X.here C.hx rfl rfl (hb C.hby hd) rfl (XT.ll_gt_t q) ho h1 z) (ky q)
  · exact Go.of (fun t z => XS.ifNo X.here C.hx rfl (hb C.hby hd) rfl (XT.ll_gt_f q) z) (kn q)
theorem Go.icmp_le (C : Cx p s m meth c Z own bytes maxL ret nm) (X : Stand p l e R s m args below meth c T locs cells slots) {pc n1 n2 : Nat} {ls : Array Slot} {rest : List Value} {x y : Int32} {o : Int} (hd : decode bytes pc = .ok (.if_icmp .le o, 3)) (ho : 0 ≤ (pc : Int) + o) (h1 : ((pc : Int) + o).toNat = n1) (h2 : pc + 3 = n2)
    (ky : ¬ y < x → Go p e below K (T.setTop (mkF m n1 ls rest))) (kn : y < x → Go p e below K (T.setTop (mkF m n2 ls rest))) : Go p e below K (T.setTop (mkF m pc ls (.int y :: .int x :: rest))) := by
  subst h2
  by_cases q : y < x
  · exact Go.of (fun t z => XS.icmpNo X.here C.hx rfl (hb C.hby hd) rfl (XT.ii_le_f q) z) (kn q)
  · exact Go.of (fun t z => XS.icmpYes X.here C.hx rfl rfl (hb C.hby hd) rfl (XT.ii_le_t q) ho h1 z) (ky q)
theorem Go.if0_le (C : Cx p s m meth c Z own bytes maxL ret nm) (X : Stand p l e R s m args below meth c T locs cells slots) {pc n1 n2 : Nat} {ls : Array Slot} {rest : List Value} {x : Int32} {o : Int} (hd : decode bytes pc = .ok (.ifCond .le o, 3)) (ho : 0 ≤ (pc : Int) + o) (h1 : ((pc : Int) + o).toNat = n1) (h2 : pc + 3 = n2)
    (ky : ¬ 0 < x → Go p e below K (T.setTop (mkF m n1 ls rest))) (kn : 0 < x → Go p e below K (T.setTop (mkF m n2 ls rest))) : Go p e below K (T.setTop (mkF m pc ls (.int x :: rest))) := by
  subst h2
  by_cases q : 0 < x
  · exact Go.of (fun t z => XS.ifNo X.here C.hx rfl (hb C.hby hd) rfl (XT.i0_le_f q) z) (kn q)
  · exact Go.of (fun t z => XS.ifYes X.here C.hx rfl rfl (hb C.hby hd) rfl (XT.i0_le_t q) ho h1 z) (ky q)
theorem Go.lcmp_le (C : Cx p s m meth c Z own bytes maxL ret nm) (X : Stand p l e R s m args below meth c T locs cells slots) {pc n1 n2 : Nat} {ls : Array Slot} {rest : List Value} {x y : Int64} {o : Int} (hd : decode bytes pc = .ok (.ifCond .le o, 3)) (ho : 0 ≤ (pc : Int) + o) (h1 : ((pc : Int) + o).toNat = n1) (h2 : pc + 3 = n2)
    (ky : ¬ y < x → Go p e below K (T.setTop (mkF m n1 ls rest))) (kn : y < x → Go p e below K (T.setTop (mkF m n2 ls rest))) : Go p e below K (T.setTop (mkF m pc ls (.int (XT.cmpL x y) :: rest))) := by
  subst h2
  by_cases q : y < x
  · exact Go.of (fun t z => XS.ifNo X.here C.hx rfl (hb C.hby hd) rfl (XT.ll_le_f q) z) (kn q)
  · exact Go.of (fun t z => XS.ifYes X.here C.hx rfl rfl (hb C.hby hd) rfl (XT.ll_le_t q) ho h1 z) (ky q)
theorem Go.ifnullN (C : Cx p s m meth c Z own bytes maxL ret nm) (X : Stand p l e R s m args below meth c T locs cells slots) {pc n : Nat} {ls : Array Slot} {rest : List Value} {o : Int} (hd : decode bytes pc = .ok (.ifnull o, 3)) (ho : 0 ≤ (pc : Int) + o) (hn : ((pc : Int) + o).toNat = n) (k : Go p e below K (T.setTop (mkF m n ls rest))) : Go p e below K (T.setTop (mkF m pc ls (.null :: rest))) :=
  Go.of (fun t q => XS.ifnullYes X.here C.hx rfl rfl (hb C.hby hd) rfl ho hn q) k
theorem Go.ifnullR (C : Cx p s m meth c Z own bytes maxL ret nm) (X : Stand p l e R s m args below meth c T locs cells slots) {pc n : Nat} {ls : Array Slot} {rest : List Value} {o : Int} {b : Addr} (hd : decode bytes pc = .ok (.ifnull o, 3)) (hn : pc + 3 = n) (k : Go p e below K (T.setTop (mkF m n ls rest))) : Go p e below K (T.setTop (mkF m pc ls (.ref b :: rest))) := by
  subst hn
  exact Go.of (fun t q => XS.ifnullNo X.here C.hx rfl (hb C.hby hd) rfl q) k
theorem Go.ifnonnullN (C : Cx p s m meth c Z own bytes maxL ret nm) (X : Stand p l e R s m args below meth c T locs cells slots) {pc n : Nat} {ls : Array Slot} {rest : List Value} {o : Int} (hd : decode bytes pc = .ok (.ifnonnull o, 3)) (hn : pc + 3 = n) (k : Go p e below K (T.setTop (mkF m n ls rest))) : Go p e below K (T.setTop (mkF m pc ls (.null :: rest))) := by
  subst hn
  exact Go.of (fun t q => XT.ifnonnullNo X.here C.hx rfl (hb C.hby hd) rfl q) k
theorem Go.ifnonnullR (C : Cx p s m meth c Z own bytes maxL ret nm) (X : Stand p l e R s m args below meth c T locs cells slots) {pc n : Nat} {ls : Array Slot} {rest : List Value} {o : Int} {b : Addr} (hd : decode bytes pc = .ok (.ifnonnull o, 3)) (ho : 0 ≤ (pc : Int) + o) (hn : ((pc : Int) + o).toNat = n) (k : Go p e below K (T.setTop (mkF m n ls rest))) : Go p e below K (T.setTop (mkF m pc ls (.ref b :: rest))) :=
  Go.of (fun t q => XT.ifnonnullYes X.here C.hx rfl rfl (hb C.hby hd) rfl ho hn q) k
theorem Go.acmp_eq (C : Cx p s m meth c Z own bytes maxL ret nm) (X : Stand p l e R s m args below meth c T locs cells slots) {pc n1 n2 : Nat} {ls : Array Slot} {rest : List Value} {x y : Value} {o : Int} (hx' : x.isRef = true) (hy' : y.isRef = true) (hd : decode bytes pc = .ok (.if_acmp .eq o, 3)) (ho : 0 ≤ (pc : Int) + o) (h1 : ((pc : Int) + o).toNat = n1) (h2 : pc + 3 = n2)
    (ky : x = y → Go p e below K (T.setTop (mkF m n1 ls rest))) (kn : ¬ x = y → Go p e below K (T.setTop (mkF m n2 ls rest))) : Go p e below K (T.setTop (mkF m pc ls (y :: x :: rest))) := by
  subst h2
  by_cases q : x = y
  · exact Go.of (fun t z => XT.acmpYes X.here C.hx rfl rfl (hb C.hby hd) rfl hx' hy' (XT.aa_eq_t q) ho h1 z) (ky q)
  · exact Go.of (fun t z => XT.acmpNo X.here C.hx rfl (hb C.hby hd) rfl hx' hy' (XT.aa_eq_f q) z) (kn q)
theorem Go.acmp_ne (C : Cx p s m meth c Z own bytes maxL ret nm) (X : Stand p l e R s m args below meth c T locs cells slots) {pc n1 n2 : Nat} {ls : Array Slot} {rest : List Value} {x y : Value} {o : Int} (hx' : x.isRef = true) (hy' : y.isRef = true) (hd : decode bytes pc = .ok (.if_acmp .ne o, 3)) (ho : 0 ≤ (pc : Int) + o) (h1 : ((pc : Int) + o).toNat = n1) (h2 : pc + 3 = n2)
    (ky : ¬ x = y → Go p e below K (T.setTop (mkF m n1 ls rest))) (kn : x = y → Go p e below K (T.setTop (mkF m n2 ls rest))) : Go p e below K (T.setTop (mkF m pc ls (y :: x :: rest))) := by
  subst h2
  by_cases q : x = y
  · exact Go.of (fun t z => XT.acmpNo X.here C.hx rfl (hb C.hby hd) rfl hx' hy' (XT.aa_ne_f q) z) (kn q)
  · exact Go.of (fun t z => XT.acmpYes X.here C.hx rfl rfl (hb C.hby hd) rfl hx' hy' (XT.aa_ne_t q) ho h1 z) (ky q)
theorem Go.iaload (C : Cx p s m meth c Z own bytes maxL ret nm) (X : Stand p l e R s m args below meth c T locs cells slots) {pc n : Nat} {ls : Array Slot} {rest : List Value} (eT : T.heap = h) {a : Addr} {cl : Cell} {j : Int32} {v : Value} (A : Arr Z h a cl .int) (hj : ¬ (j < 0 ∨ cl.slots.size ≤ j.toNatClampNeg)) (hv : cl.slots[j.toNatClampNeg]? = some v) (hd : decode bytes pc = .ok (.iaload, 1)) (hn : pc + 1 = n) (k : Go p e below K (T.setTop (mkF m n ls (v :: rest)))) : Go p e below K (T.setTop (mkF m pc ls (.int j :: .ref a :: rest))) := by
  subst hn
  have hc : T.heap[a]? = some cl := by rw [eT]; exact A.1
  have ha := State.isArrayOf_alike (T := s) C.hZ.alike A.2.1
  exact Go.of (fun t q => X.iaload C.hx hc ha A.2.2 hj hv (g := mkF m pc ls (.int j :: .ref a :: rest)) rfl rfl (hb C.hby hd) t q) k
theorem Go.caload (C : Cx p s m meth c Z own bytes maxL ret nm) (X : Stand p l e R s m args below meth c T locs cells slots) {pc n : Nat} {ls : Array Slot} {rest : List Value} (eT : T.heap = h) {a : Addr} {cl : Cell} {j : Int32} {v : Value} (A : Arr Z h a cl .char) (hj : ¬ (j < 0 ∨ cl.slots.size ≤ j.toNatClampNeg)) (hv : cl.slots[j.toNatClampNeg]? = some v) (hd : decode bytes pc = .ok (.caload, 1)) (hn : pc + 1 = n) (k : Go p e below K (T.setTop (mkF m n ls (v :: rest)))) : Go p e below K (T.setTop (mkF m pc ls (.int j :: .ref a :: rest))) := by
  subst hn
  have hc : T.heap[a]? = some cl := by rw [eT]; exact A.1
  have ha := State.isArrayOf_alike (T := s) C.hZ.alike A.2.1
  exact Go.of (fun t q => X.caload C.hx hc ha A.2.2 hj hv (g := mkF m pc ls (.int j :: .ref a :: rest)) rfl rfl (hb C.hby hd) t q) k
theorem Go.baloadB (C : Cx p s m meth c Z own bytes maxL ret nm) (X : Stand p l e R s m args below meth c T locs cells slots) {pc n : Nat} {ls : Array Slot} {rest : List Value} (eT : T.heap = h) {a : Addr} {cl : Cell} {j : Int32} {v : Value} (A : Arr Z h a cl .byte) (hj : ¬ (j < 0 ∨ cl.slots.size ≤ j.toNatClampNeg)) (hv : cl.slots[j.toNatClampNeg]? = some v) (hd : decode bytes pc = .ok (.baload, 1)) (hn : pc + 1 = n) (k : Go p e below K (T.setTop (mkF m n ls (v :: rest)))) : Go p e below K (T.setTop (mkF m pc ls (.int j :: .ref a :: rest))) := by
  subst hn
  have hc : T.heap[a]? = some cl := by rw [eT]; exact A.1
  have ha := State.isArrayOf_alike (T := s) C.hZ.alike A.2.1
  exact Go.of (fun t q => X.baloadBytes C.hx hc ha A.2.2 hj hv (g := mkF m pc ls (.int j :: .ref a :: rest)) rfl rfl (hb C.hby hd) t q) k
theorem Go.aaload (C : Cx p s m meth c Z own bytes maxL ret nm) (X : Stand p l e R s m args below meth c T locs cells slots) {pc n : Nat} {ls : Array Slot} {rest : List Value} (eT : T.heap = h) {a : Addr} {cl : Cell} {j : Int32} {v : Value} {ty : FieldType} (hty : ty.isReference = true) (A : Arr Z h a cl ty) (hj : ¬ (j < 0 ∨ cl.slots.size ≤ j.toNatClampNeg)) (hv : cl.slots[j.toNatClampNeg]? = some v) (hd : decode bytes pc = .ok (.aaload, 1)) (hn : pc + 1 = n) (k : Go p e below K (T.setTop (mkF m n ls (v :: rest)))) : Go p e below K (T.setTop (mkF m pc ls (.int j :: .ref a :: rest))) := by
  subst hn
  have hc : T.heap[a]? = some cl := by rw [eT]; exact A.1
  have ha := State.isArrayOf_alike (T := s) C.hZ.alike A.2.1
  exact Go.of (fun t q => X.aaload C.hx hc ha hty A.2.2 hj hv (g := mkF m pc ls (.int j :: .ref a :: rest)) rfl rfl (hb C.hby hd) t q) k
theorem Go.arraylength (C : Cx p s m meth c Z own bytes maxL ret nm) (X : Stand p l e R s m args below meth c T locs cells slots) {pc n : Nat} {ls : Array Slot} {rest : List Value} (eT : T.heap = h) {a : Addr} {cl : Cell} {ty : FieldType} {z : Int32} (A : Arr Z h a cl ty) (hz : cl.slots.size.toInt32 = z) (hd : decode bytes pc = .ok (.arraylength, 1)) (hn : pc + 1 = n) (k : Go p e below K (T.setTop (mkF m n ls (.int z :: rest)))) : Go p e below K (T.setTop (mkF m pc ls (.ref a :: rest))) := by
  subst hn hz
  have hc : T.heap[a]? = some cl := by rw [eT]; exact A.1
  have ha := State.isArrayOf_alike (T := s) C.hZ.alike A.2.1
  exact Go.of (fun t q => X.arraylength C.hx hc ha (g := mkF m pc ls (.ref a :: rest)) rfl rfl (hb C.hby hd) t q) k
theorem Go.iastore (C : Cx p s m meth c Z own bytes maxL ret nm) (X : Stand p l e R s m args below meth c T locs cells slots) {pc n : Nat} {ls : Array Slot} {rest : List Value} (eT : T.heap = h) {a : Addr} {cl : Cell} {j : Int32} {x : Int32} (A : Arr Z h a cl .int) (hj : ¬ (j < 0 ∨ cl.slots.size ≤ j.toNatClampNeg)) (hd : decode bytes pc = .ok (.iastore, 1)) (hn : pc + 1 = n) (k : ∀ T' h', Stand p l e R s m args below meth c T' (locs ++ [⟨a, j.toNatClampNeg⟩]) cells slots → T'.heap = h' → Wr h h' a j.toNatClampNeg (.int x) → Go p e below K (T'.setTop (mkF m n ls rest))) : Go p e below K (T.setTop (mkF m pc ls (.int x :: .int j :: .ref a :: rest))) := by
  subst hn
  obtain ⟨T', h', X', e', W, st⟩ := stI X C.hx C.hZ eT A hj (g := mkF m pc ls (.int x :: .int j :: .ref a :: rest)) rfl rfl (hb C.hby hd)
  exact Go.of st (k T' h' X' e' W)
theorem Go.castore (C : Cx p s m meth c Z own bytes maxL ret nm) (X : Stand p l e R s m args below meth c T locs cells slots) {pc n : Nat} {ls : Array Slot} {rest : List Value} (eT : T.heap = h) {a : Addr} {cl : Cell} {j : Int32} {x : Int32} (A : Arr Z h a cl .char) (hj : ¬ (j < 0 ∨ cl.slots.size ≤ j.toNatClampNeg)) (hd : decode bytes pc = .ok (.castore, 1)) (hn : pc + 1 = n) (k : ∀ T' h', Stand p l e R s m args below meth c T' (locs ++ [⟨a, j.toNatClampNeg⟩]) cells slots → T'.heap = h' → Wr h h' a j.toNatClampNeg (.int (nar .char x)) → Go p e below K (T'.setTop (mkF m n ls rest))) : Go p e below K (T.setTop (mkF m pc ls (.int x :: .int j :: .ref a :: rest))) := by
  subst hn
  obtain ⟨T', h', X', e', W, st⟩ := stC X C.hx C.hZ eT A hj (g := mkF m pc ls (.int x :: .int j :: .ref a :: rest)) rfl rfl (hb C.hby hd)
  exact Go.of st (k T' h' X' e' W)
theorem Go.bastoreB (C : Cx p s m meth c Z own bytes maxL ret nm) (X : Stand p l e R s m args below meth c T locs cells slots) {pc n : Nat} {ls : Array Slot} {rest : List Value} (eT : T.heap = h) {a : Addr} {cl : Cell} {j : Int32} {x : Int32} (A : Arr Z h a cl .byte) (hj : ¬ (j < 0 ∨ cl.slots.size ≤ j.toNatClampNeg)) (hd : decode bytes pc = .ok (.bastore, 1)) (hn : pc + 1 = n) (k : ∀ T' h', Stand p l e R s m args below meth c T' (locs ++ [⟨a, j.toNatClampNeg⟩]) cells slots → T'.heap = h' → Wr h h' a j.toNatClampNeg (.int (nar .byte x)) → Go p e below K (T'.setTop (mkF m n ls rest))) : Go p e below K (T.setTop (mkF m pc ls (.int x :: .int j :: .ref a :: rest))) := by
  subst hn
  obtain ⟨T', h', X', e', W, st⟩ := stB X C.hx C.hZ eT A hj (g := mkF m pc ls (.int x :: .int j :: .ref a :: rest)) rfl rfl (hb C.hby hd)
  exact Go.of st (k T' h' X' e' W)
theorem Go.aastore (C : Cx p s m meth c Z own bytes maxL ret nm) (X : Stand p l e R s m args below meth c T locs cells slots) {pc n : Nat} {ls : Array Slot} {rest : List Value} (eT : T.heap = h) {a : Addr} {cl : Cell} {j : Int32} {v : Value} {ty : FieldType} (A : Arr Z h a cl ty) (hj : ¬ (j < 0 ∨ cl.slots.size ≤ j.toNatClampNeg)) (hty : ty.isReference = true) (F : Sto Z h a v) (hd : decode bytes pc = .ok (.aastore, 1)) (hn : pc + 1 = n) (k : ∀ T' h', Stand p l e R s m args below meth c T' (locs ++ [⟨a, j.toNatClampNeg⟩]) cells slots → T'.heap = h' → Wr h h' a j.toNatClampNeg v → Go p e below K (T'.setTop (mkF m n ls rest))) : Go p e below K (T.setTop (mkF m pc ls (v :: .int j :: .ref a :: rest))) := by
  subst hn
  obtain ⟨T', h', X', e', W, st⟩ := stR X C.hx C.hZ eT A hj hty F (g := mkF m pc ls (v :: .int j :: .ref a :: rest)) rfl rfl (hb C.hby hd)
  exact Go.of st (k T' h' X' e' W)
theorem Go.getF (C : Cx p s m meth c Z own bytes maxL ret nm) (X : Stand p l e R s m args below meth c T locs cells slots) {pc n : Nat} {ls : Array Slot} {rest : List Value} (eT : T.heap = h) {R0 O n0 d : String} {index : Nat} {a : Addr} {v : Value} (w : (Cond.fieldLink own index R0 n0 d).before a0 Z = true) (via : Via Z R0 O n0 d) (F : Fld Z h a O n0 d v) (hd : decode bytes pc = .ok (.getfield index, 3)) (hn : pc + 3 = n) (k : ∀ T', Stand p l e R s m args below meth c T' locs cells slots → T'.heap = h → Go p e below K (T'.setTop (mkF m n ls (v :: rest)))) : Go p e below K (T.setTop (mkF m pc ls (.ref a :: rest))) := by
  subst hn
  obtain ⟨T', X', e', st⟩ := Jvm.RoadKit.getF X C.hx C.hZ C.hown (host := "") (Or.inl w) via eT F (g := mkF m pc ls (.ref a :: rest)) rfl rfl (hb C.hby hd)
  exact Go.of st (k T' X' e')
theorem Go.putF (C : Cx p s m meth c Z own bytes maxL ret nm) (X : Stand p l e R s m args below meth c T locs cells slots) {pc n : Nat} {ls : Array Slot} {rest : List Value} (eT : T.heap = h) {R0 O n0 d C0 : String} {index kk : Nat} {ty : FieldType} {a : Addr} {v v' old : Value} (w : (Cond.fieldLink own index R0 n0 d).before a0 Z = true) (via : Via Z R0 O n0 d) (F : Fld Z h a O n0 d old) (E : Exa Z h a C0) (L : (Cond.lays C0 O n0 d).before a0 Z = true ∨ ((Cond.laysFinal C0 O n0 d).before a0 Z = true ∧ own = O ∧ nm = "<init>")) (wi : (Cond.instantiable C0 kk).before a0 Z = true) (hty : parseFieldDescriptor d = some ty) (hnv : narrow ty v = v') (hf : fits ty v' = true) (hd : decode bytes pc = .ok (.putfield index, 3)) (hn : pc + 3 = n)
    (k : ∀ T' h', Stand p l e R s m args below meth c T' (locs ++ [⟨a, slotOf Z O n0 d⟩]) cells slots → T'.heap = h' → Wr h h' a (slotOf Z O n0 d) v' → Go p e below K (T'.setTop (mkF m n ls rest))) : Go p e below K (T.setTop (mkF m pc ls (v :: .ref a :: rest))) := by
  subst hn
  obtain ⟨T', h', X', e', W, st⟩ := Jvm.RoadKit.putFN X C.hx C.hZ C.hown w via eT F E (L.imp id fun z => ⟨z.1, z.2.1, C.hnm.trans z.2.2⟩) wi hty hnv hf (g := mkF m pc ls (v :: .ref a :: rest)) rfl rfl (hb C.hby hd)
  exact Go.of st (k T' h' X' e' W)
theorem Go.getS (C : Cx p s m meth c Z own bytes maxL ret nm) (X : Stand p l e R s m args below meth c T locs cells slots) {pc n : Nat} {ls : Array Slot} {rest : List Value} (eT : T.heap = h) {R0 O n0 d : String} {index : Nat} {v : Value} (w : (Cond.fieldLink own index R0 n0 d).before a0 Z = true) (via : Via Z R0 O n0 d) (F : Sta Z h O n0 d v) (hd : decode bytes pc = .ok (.getstatic index, 3)) (hn : pc + 3 = n) (k : ∀ T', Stand p l e R s m args below meth c T' locs cells slots → T'.heap = h → Go p e below K (T'.setTop (mkF m n ls (v :: rest)))) : Go p e below K (T.setTop (mkF m pc ls rest)) := by
  subst hn
  obtain ⟨T', X', e', st⟩ := Jvm.RoadKit.getS X C.hx C.hZ C.hown (host := "") w via eT F (g := mkF m pc ls rest) rfl (hb C.hby hd)
  exact Go.of st (k T' X' e')
theorem Go.newO (C : Cx p s m meth c Z own bytes maxL ret nm) (X : Stand p l e R s m args below meth c T locs cells slots) {pc n : Nat} {ls : Array Slot} {rest : List Value} (eT : T.heap = h) {C0 : String} {index n0 : Nat} (w : (Cond.classLink own index C0).before a0 Z = true) (wi : (Cond.instantiable C0 n0).before a0 Z = true) (wz : (Cond.initialized C0).before a0 Z = true) (hd : decode bytes pc = .ok (.new index, 3)) (hn : pc + 3 = n) (hc : cells + 1 ≤ R.cells) (hl : slots + n0 ≤ R.slots)
    (k : ∀ T' h' a, a = h.size → Stand p l e R s m args below meth c T' locs (cells + 1) (slots + n0) → T'.heap = h' → Ext h h' → Exa Z h' a C0 → (∀ {O nm d : String} {ty : FieldType}, Laid Z a0 C0 O nm d → parseFieldDescriptor d = some ty → Fld Z h' a O nm d (defaultValue ty)) → Go p e below K (T'.setTop (mkF m n ls (.ref a :: rest)))) : Go p e below K (T.setTop (mkF m pc ls rest)) := by
  subst hn
  obtain ⟨T', h', X', e', E', A', D', -, st⟩ := Jvm.RoadKit.newO X C.hx C.hZ C.hown w wi wz eT (g := mkF m pc ls rest) rfl (hb C.hby hd) hc hl
  exact Go.of st (k T' h' _ rfl X' e' E' A' D')
theorem Go.newP (C : Cx p s m meth c Z own bytes maxL ret nm) (X : Stand p l e R s m args below meth c T locs cells slots) {pc n : Nat} {ls : Array Slot} {rest : List Value} (eT : T.heap = h) {aty : ArrayType} (w : (Cond.arrayClass (newarray.typeOf aty)).before a0 Z = true) {z : Int32} (hd : decode bytes pc = .ok (.newarray aty, 2)) (hn : pc + 2 = n) (hz : ¬ z < 0) (cap : Nat) (hcap : z.toNatClampNeg ≤ cap) (hb8 : cap * 8 ≤ 536870912) (hc : cells + 1 ≤ R.cells) (hl : slots + cap ≤ R.slots)
    (k : ∀ T' h' a cA, a = h.size → Stand p l e R s m args below meth c T' locs (cells + 1) (slots + cap) → T'.heap = h' → Ext h h' → Arr Z h' a (newA cA (newarray.typeOf aty) z) (newarray.typeOf aty) → Go p e below K (T'.setTop (mkF m n ls (.ref a :: rest)))) : Go p e below K (T.setTop (mkF m pc ls (.int z :: rest))) := by
  subst hn
  obtain ⟨T', h', cA, X', e', E', A', st⟩ := Jvm.RoadKit.newP X C.hx C.hZ w eT (g := mkF m pc ls (.int z :: rest)) rfl (hb C.hby hd) rfl hz hcap hb8 hc hl
  exact Go.of st (k T' h' _ cA rfl X' e' E' A')
theorem Go.newR (C : Cx p s m meth c Z own bytes maxL ret nm) (X : Stand p l e R s m args below meth c T locs cells slots) {pc n : Nat} {ls : Array Slot} {rest : List Value} (eT : T.heap = h) {C0 : String} {index : Nat} (w1 : (Cond.classLink own index C0).before a0 Z = true) (w2 : (Cond.arrayOver (.object C0)).before a0 Z = true) {z : Int32} (hd : decode bytes pc = .ok (.anewarray index, 3)) (hn : pc + 3 = n) (hz : ¬ z < 0) (cap : Nat) (hcap : z.toNatClampNeg ≤ cap) (hb8 : cap * 8 ≤ 536870912) (hc : cells + 1 ≤ R.cells) (hl : slots + cap ≤ R.slots)
    (k : ∀ T' h' a cA, a = h.size → Stand p l e R s m args below meth c T' locs (cells + 1) (slots + cap) → T'.heap = h' → Ext h h' → Arr Z h' a (newA cA (.object C0) z) (.object C0) → Ovr Z cA C0 → Go p e below K (T'.setTop (mkF m n ls (.ref a :: rest)))) : Go p e below K (T.setTop (mkF m pc ls (.int z :: rest))) := by
  subst hn
  obtain ⟨T', h', cA, X', e', E', A', O', st⟩ := Jvm.RoadKit.newR X C.hx C.hZ C.hown w1 w2 eT (g := mkF m pc ls (.int z :: rest)) rfl (hb C.hby hd) rfl hz hcap hb8 hc hl
  exact Go.of st (k T' h' _ cA rfl X' e' E' A' O')
theorem Go.initO (C : Cx p s m meth c Z own bytes maxL ret nm) (X : Stand p l e R s m args below meth c T locs cells slots) {pc n : Nat} {ls : Array Slot} {rest : List Value} (eT : T.heap = h) {index : Nat} {a : Addr} (w1 : (Cond.methodLink own index Lib.objectInit).before a0 Z = true) (w2 : (Cond.instanceMethod Lib.objectInit).before a0 Z = true) (w3 : (Cond.code Lib.objectInit ⟨#[0xb1]⟩ 1 none).before a0 Z = true) (hd : decode bytes pc = .ok (.invokespecial index, 3)) (hn : pc + 3 = n) (hsz : ls.size = maxL) (hf : 1 ≤ R.frames) {W : Nat} (hW : (rest.map fun v => v.category).sum = W) (hl : W + 12 ≤ R.locals)
    (k : ∀ T', Stand p l e R s m args below meth c T' locs cells slots → T'.heap = h → Go p e below K (T'.setTop (mkF m n ls rest))) : Go p e below K (T.setTop (mkF m pc ls (.ref a :: rest))) := by
  subst hn
  obtain ⟨T', X', e', st⟩ := Jvm.RoadKit.initO X C.hx C.hZ C.hown w1 w2 w3 eT (g := mkF m pc ls (.ref a :: rest)) rfl (hsz.trans C.hml.symm) rfl (hb C.hby hd) hf (W := W) (by show 2 * 0 + _ ≤ _; omega) hl
  exact Go.of st (k T' X' e')
theorem Go.castY (C : Cx p s m meth c Z own bytes maxL ret nm) (X : Stand p l e R s m args below meth c T locs cells slots) {pc n : Nat} {ls : Array Slot} {rest : List Value} (eT : T.heap = h) {K0 : String} {index : Nat} {a : Addr} (w : (Cond.classLink own index K0).before a0 Z = true) (F : Ins Z h a K0 true) (hd : decode bytes pc = .ok (.checkcast index, 3)) (hn : pc + 3 = n) (k : ∀ T', Stand p l e R s m args below meth c T' locs cells slots → T'.heap = h → Go p e below K (T'.setTop (mkF m n ls (.ref a :: rest)))) : Go p e below K (T.setTop (mkF m pc ls (.ref a :: rest))) := by
  subst hn
  obtain ⟨T', X', e', st⟩ := Jvm.RoadKit.castY X C.hx C.hZ C.hown w eT F (g := mkF m pc ls (.ref a :: rest)) rfl rfl (hb C.hby hd)
  exact Go.of st (k T' X' e')
theorem Go.instY (C : Cx p s m meth c Z own bytes maxL ret nm) (X : Stand p l e R s m args below meth c T locs cells slots) {pc n : Nat} {ls : Array Slot} {rest : List Value} (eT : T.heap = h) {K0 : String} {index : Nat} {a : Addr} (w : (Cond.classLink own index K0).before a0 Z = true) (F : Ins Z h a K0 true) (hd : decode bytes pc = .ok (.instanceof index, 3)) (hn : pc + 3 = n) (k : ∀ T', Stand p l e R s m args below meth c T' locs cells slots → T'.heap = h → Go p e below K (T'.setTop (mkF m n ls (.int 1 :: rest)))) : Go p e below K (T.setTop (mkF m pc ls (.ref a :: rest))) := by
  subst hn
  obtain ⟨T', X', e', st⟩ := Jvm.RoadKit.instY X C.hx C.hZ C.hown w eT F (g := mkF m pc ls (.ref a :: rest)) rfl rfl (hb C.hby hd)
  exact Go.of st (k T' X' e')
theorem Go.newPE (C : Cx p s m meth c Z own bytes maxL ret nm) (X : Stand p l e R s m args below meth c T locs cells slots) {pc n : Nat} {ls : Array Slot} {rest : List Value} (eT : T.heap = h) {aty : ArrayType} (w : (Cond.arrayClass (newarray.typeOf aty)).before a0 Z = true) {z : Int32} (hd : decode bytes pc = .ok (.newarray aty, 2)) (hn : pc + 2 = n) (hz : ¬ z < 0) (cap : Nat) (hcap : z.toNatClampNeg ≤ cap) (hb8 : cap * 8 ≤ 536870912) (hc : cells + 1 ≤ R.cells) (hl : slots + cap ≤ R.slots) {ad : String} (had : "[" ++ (newarray.typeOf aty).toString = ad)
    (k : ∀ T' h' a cA, a = h.size → Stand p l e R s m args below meth c T' locs (cells + 1) (slots + cap) → T'.heap = h' → Ext h h' → Arr Z h' a (newA cA (newarray.typeOf aty) z) (newarray.typeOf aty) → Exa Z h' a ad → Go p e below K (T'.setTop (mkF m n ls (.ref a :: rest)))) : Go p e below K (T.setTop (mkF m pc ls (.int z :: rest))) := by
  subst hn
  obtain ⟨T', h', cA, X', e', E', A', x', st⟩ := Jvm.RoadKit.newPE X C.hx C.hZ w eT (g := mkF m pc ls (.int z :: rest)) rfl (hb C.hby hd) rfl hz hcap hb8 hc hl had
  exact Go.of st (k T' h' _ cA rfl X' e' E' A' x')
theorem Go.cloneA (C : Cx p s m meth c Z own bytes maxL ret nm) (X : Stand p l e R s m args below meth c T locs cells slots) {pc n : Nat} {ls : Array Slot} {rest : List Value} (eT : T.heap = h) {index : Nat} {a : Addr} {ad : String} {cl : Cell} {ty : FieldType} (w1 : (Cond.methodLink own index ⟨ad, "clone", "()Ljava/lang/Object;"⟩).before a0 Z = true) (w2 : (Cond.sameMethod ad "java/lang/Object" "clone" "()Ljava/lang/Object;").before a0 Z = true) (w3 : (Cond.native ⟨"java/lang/Object", "clone", "()Ljava/lang/Object;"⟩).before a0 Z = true) (w4 : (Cond.instanceMethod ⟨"java/lang/Object", "clone", "()Ljava/lang/Object;"⟩).before a0 Z = true) (w5 : (Cond.selects ad ⟨ad, "clone", "()Ljava/lang/Object;"⟩ ⟨"java/lang/Object", "clone", "()Ljava/lang/Object;"⟩).before a0 Z = true) (w6 : (Cond.castable ad "java/lang/Cloneable").before a0 Z = true)
    (A : Arr Z h a cl ty) (E : Exa Z h a ad) (F : FitC Z cl) (hd : decode bytes pc = .ok (.invokevirtual index, 3)) (hn : pc + 3 = n) (hsz : ls.size = maxL) (hf : 1 ≤ R.frames) {W : Nat} (hW : (rest.map fun v => v.category).sum = W) (hl : W + 14 ≤ R.locals) (cap : Nat) (hcap : cl.slots.size ≤ cap) (hc : cells + 1 ≤ R.cells) (hsl : slots + cap ≤ R.slots)
    (k : ∀ T' h' b, b = h.size → Stand p l e R s m args below meth c T' locs (cells + 1) (slots + cap) → T'.heap = h' → Ext h h' → Arr Z h' b (cloneOf cl) ty → Exa Z h' b ad → Go p e below K (T'.setTop (mkF m n ls (.ref b :: rest)))) : Go p e below K (T.setTop (mkF m pc ls (.ref a :: rest))) := by
  subst hn
  obtain ⟨T', h', X', e', E', A', x', st⟩ := Jvm.RoadKit.cloneA X C.hx C.hZ C.hown w1 w2 w3 w4 w5 w6 eT A E F (g := mkF m pc ls (.ref a :: rest)) rfl (hsz.trans C.hml.symm) rfl (hb C.hby hd) hf (W := W) (by show 2 * 0 + _ ≤ _; omega) hl hcap hc hsl
  exact Go.of st (k T' h' _ rfl X' e' E' A' x')
theorem Go.stat (C : Cx p s m meth c Z own bytes maxL ret nm) (X : Stand p l e R s m args below meth c T locs cells slots) {pc n : Nat} {ls : Array Slot} {rest : List Value} (eT : T.heap = h) {index yL W : Nat} {ybytes : ByteArray} {yret : Option FieldType} {rm : Room} {Q : Option Value → Heap → List Loc → Prop} {argsL : List Value} {st : List Value} {y : MethodName} (hC : Ctr l Z y ybytes yL yret rm argsL.toArray h Q) (wl : (Cond.methodLink own index y).before a0 Z = true) (ws : (Cond.static y).before a0 Z = true) (wi : (Cond.initialized y.cls).before a0 Z = true) (wc : (Cond.code y ybytes yL yret).before a0 Z = true) (hy : y.cls ≠ "java/lang/invoke/MethodHandle" ∧ y.cls ≠ "java/lang/invoke/VarHandle")
    (hlen : ∀ sig, parseMethodDescriptor y.desc = some sig → argsL.length = sig.parameters.length) (hst : st = argsL.reverse ++ rest) (hd : decode bytes pc = .ok (.invokestatic index, 3)) (hn : pc + 3 = n) (hsz : ls.size = maxL) (hf : rm.frames + 1 ≤ R.frames) (hW : (rest.map fun v => v.category).sum = W) (hl : W + (yL + 11) + rm.locals ≤ R.locals) (hcl : cells + rm.cells ≤ R.cells) (hsl : slots + rm.slots ≤ R.slots) 
    (k : ∀ T' h' v L, Stand p l e R s m args below meth c T' (locs ++ L) (cells + rm.cells) (slots + rm.slots) → T'.heap = h' → Q v h' L → Go p e below K (T'.setTop (mkF m n ls (v.toList ++ rest)))) : Go p e below K (T.setTop (mkF m pc ls st)) := by
  subst hn hst
  obtain ⟨v, _, ⟨T', L', k', n'⟩, -, X', ⟨L1, hQ, l1, y1, z1⟩, stp⟩ := Jvm.LawKit.callS X C.hx (y := y) C.hown (mvT C.hZ wl) (mvT C.hZ ws) (mvT C.hZ wi) (mvT C.hZ wc) hy (backOf (W := W) (hC []) C.hZ wc wi hf hl) (g := mkF m pc ls (argsL.reverse ++ rest)) rfl (hsz.trans C.hml.symm) (argsL := argsL) (rest := rest) hlen rfl (by show 2 * 0 + _ ≤ _; omega) (hb C.hby hd) (fun _ _ => ⟨rfl, eT, hcl, hsl⟩)
  dsimp only [Pt.U, Pt.locs, Pt.cells, Pt.slots] at X' l1 y1 z1 stp hQ
  subst l1 y1 z1
  exact Go.of stp (k T' T'.heap v L1 X' rfl hQ)
theorem Go.spec (C : Cx p s m meth c Z own bytes maxL ret nm) (X : Stand p l e R s m args below meth c T locs cells slots) {pc n : Nat} {ls : Array Slot} {rest : List Value} (eT : T.heap = h) {index yL W : Nat} {ybytes : ByteArray} {rm : Room} {Q : Option Value → Heap → List Loc → Prop} {argsL : List Value} {st : List Value} {y : MethodName} {a : Addr} (hC : Ctr l Z y ybytes yL none rm (.ref a :: argsL).toArray h Q) (hy1 : y.name = "<init>") (wl : (Cond.methodLink own index y).before a0 Z = true) (wm : (Cond.instanceMethod y).before a0 Z = true) (wi : (Cond.initialized y.cls).before a0 Z = true) (wc : (Cond.code y ybytes yL none).before a0 Z = true) (hy : y.cls ≠ "java/lang/invoke/MethodHandle" ∧ y.cls ≠ "java/lang/invoke/VarHandle")
    (hlen : ∀ sig, parseMethodDescriptor y.desc = some sig → argsL.length = sig.parameters.length) (hst : st = argsL.reverse ++ .ref a :: rest) (hd : decode bytes pc = .ok (.invokespecial index, 3)) (hn : pc + 3 = n) (hsz : ls.size = maxL) (hf : rm.frames + 1 ≤ R.frames) (hW : (rest.map fun v => v.category).sum = W) (hl : W + (yL + 11) + rm.locals ≤ R.locals) (hcl : cells + rm.cells ≤ R.cells) (hsl : slots + rm.slots ≤ R.slots) 
    (k : ∀ T' h' v L, Stand p l e R s m args below meth c T' (locs ++ L) (cells + rm.cells) (slots + rm.slots) → T'.heap = h' → Q v h' L → Go p e below K (T'.setTop (mkF m n ls (v.toList ++ rest)))) : Go p e below K (T.setTop (mkF m pc ls st)) := by
  subst hn hst
  obtain ⟨v, _, ⟨T', L', k', n'⟩, -, X', ⟨L1, hQ, l1, y1, z1⟩, stp⟩ := X.specialBack C.hx (y := y) hy1 C.hown (mvT C.hZ wl) (mvT C.hZ wm) (mvT C.hZ wc) hy (backOf (W := W) (hC []) C.hZ wc wi hf hl) (g := mkF m pc ls (argsL.reverse ++ .ref a :: rest)) rfl (hsz.trans C.hml.symm) (Steps.refl _) (a := a) (argsL := argsL) (rest := rest) hlen rfl (by show 2 * 0 + _ ≤ _; omega) (hb C.hby hd) (fun _ _ => ⟨rfl, eT, hcl, hsl⟩)
  dsimp only [Pt.U, Pt.locs, Pt.cells, Pt.slots] at X' l1 y1 z1 stp hQ
  subst l1 y1 z1
  exact Go.of (fun t q => stp.trans q) (k T' T'.heap v L1 X' rfl hQ)
theorem Go.virt (C : Cx p s m meth c Z own bytes maxL ret nm) (X : Stand p l e R s m args below meth c T locs cells slots) {pc n : Nat} {ls : Array Slot} {rest : List Value} (eT : T.heap = h) {index yL W : Nat} {ybytes : ByteArray} {yret : Option FieldType} {rm : Room} {Q : Option Value → Heap → List Loc → Prop} {argsL : List Value} {st : List Value} {y z : MethodName} {a : Addr} {C0 : String} (hC : Ctr l Z z ybytes yL yret rm (.ref a :: argsL).toArray h Q) (wl : (Cond.methodLink own index y).before a0 Z = true) (wd : (Cond.declares y).before a0 Z = true) (nf : NotFace s y) (wsel : (Cond.selects C0 y z).before a0 Z = true) (wm : (Cond.instanceMethod z).before a0 Z = true) (wi : (Cond.initialized z.cls).before a0 Z = true) (wc : (Cond.code z ybytes yL yret).before a0 Z = true) (hy : y.cls ≠ "java/lang/invoke/MethodHandle" ∧ y.cls ≠ "java/lang/invoke/VarHandle") (E : Exa Z h a C0)
    (hlen : ∀ sig, parseMethodDescriptor y.desc = some sig → argsL.length = sig.parameters.length) (hst : st = argsL.reverse ++ .ref a :: rest) (hd : decode bytes pc = .ok (.invokevirtual index, 3)) (hn : pc + 3 = n) (hsz : ls.size = maxL) (hf : rm.frames + 1 ≤ R.frames) (hW : (rest.map fun v => v.category).sum = W) (hl : W + (yL + 11) + rm.locals ≤ R.locals) (hcl : cells + rm.cells ≤ R.cells) (hsl : slots + rm.slots ≤ R.slots) 
    (k : ∀ T' h' v L, Stand p l e R s m args below meth c T' (locs ++ L) (cells + rm.cells) (slots + rm.slots) → T'.heap = h' → Q v h' L → Go p e below K (T'.setTop (mkF m n ls (v.toList ++ rest)))) : Go p e below K (T.setTop (mkF m pc ls st)) := by
  subst hn hst
  obtain ⟨cq, kq, q1, q2, q3⟩ := isOf C.hZ eT E
  obtain ⟨v, _, ⟨T', L', k', n'⟩, -, X', ⟨L1, hQ, l1, y1, z1⟩, stp⟩ := X.virtualBack C.hx (y := y) (z := z) C.hown (mvT C.hZ wl) (mvT C.hZ wd) nf (mvT C.hZ wsel) (mvT C.hZ wm) hy (backOf (W := W) (hC []) C.hZ wc wi hf hl) q1 q3 (g := mkF m pc ls (argsL.reverse ++ .ref a :: rest)) rfl (hsz.trans C.hml.symm) (Steps.refl _) (argsL := argsL) (rest := rest) hlen rfl (by show 2 * 0 + _ ≤ _; omega) (hb C.hby hd) (fun _ _ => ⟨rfl, eT, hcl, hsl⟩)
  dsimp only [Pt.U, Pt.locs, Pt.cells, Pt.slots] at X' l1 y1 z1 stp hQ
  subst l1 y1 z1
  exact Go.of (fun t q => stp.trans q) (k T' T'.heap v L1 X' rfl hQ)
theorem Go.priv (C : Cx p s m meth c Z own bytes maxL ret nm) (X : Stand p l e R s m args below meth c T locs cells slots) {pc n : Nat} {ls : Array Slot} {rest : List Value} (eT : T.heap = h) {index yL W : Nat} {ybytes : ByteArray} {yret : Option FieldType} {rm : Room} {Q : Option Value → Heap → List Loc → Prop} {argsL : List Value} {st : List Value} {y : MethodName} {a : Addr} {C0 : String} (hC : Ctr l Z y ybytes yL yret rm (.ref a :: argsL).toArray h Q) (wl : (Cond.methodLink own index y).before a0 Z = true) (wm : (Cond.instanceMethod y).before a0 Z = true) {kk : Nat} (wk : (Cond.instantiable y.cls kk).before a0 Z = true) (wp : (Cond.privateMethod y).before a0 Z = true) (wi : (Cond.initialized y.cls).before a0 Z = true) (wc : (Cond.code y ybytes yL yret).before a0 Z = true) (hy : y.cls ≠ "java/lang/invoke/MethodHandle" ∧ y.cls ≠ "java/lang/invoke/VarHandle") (E : Exa Z h a C0)
    (hlen : ∀ sig, parseMethodDescriptor y.desc = some sig → argsL.length = sig.parameters.length) (hst : st = argsL.reverse ++ .ref a :: rest) (hd : decode bytes pc = .ok (.invokevirtual index, 3)) (hn : pc + 3 = n) (hsz : ls.size = maxL) (hf : rm.frames + 1 ≤ R.frames) (hW : (rest.map fun v => v.category).sum = W) (hl : W + (yL + 11) + rm.locals ≤ R.locals) (hcl : cells + rm.cells ≤ R.cells) (hsl : slots + rm.slots ≤ R.slots) 
    (k : ∀ T' h' v L, Stand p l e R s m args below meth c T' (locs ++ L) (cells + rm.cells) (slots + rm.slots) → T'.heap = h' → Q v h' L → Go p e below K (T'.setTop (mkF m n ls (v.toList ++ rest)))) : Go p e below K (T.setTop (mkF m pc ls st)) := by
  subst hn hst
  obtain ⟨cq, q, q'⟩ := E.cell
  obtain ⟨c0, k0, i1, i2, -, i4, -⟩ := Cond.instantiable_spec (mvT C.hZ wk (args := args) : (Cond.instantiable y.cls kk).before args s = true)
  have hni : k0.isInterface = false := by cases hq : k0.isInterface <;> simp [hq] at i4 ⊢
  have hsel := selects_self_of_private (args := args) i1 i2 hni (Cond.privateMethod_at (mvP C.hZ wp (args := #[]))) (mvT C.hZ wm) hy
  obtain ⟨v, _, ⟨T', L', k', n'⟩, -, X', ⟨L1, hQ, l1, y1, z1⟩, stp⟩ := X.privateBack C.hx (y := y) C.hown (mvT C.hZ wl) (mvT C.hZ wm) hsel (Cond.privateMethod_at (mvP C.hZ wp (args := #[]))) (mvT C.hZ wc) hy (backOf (W := W) (hC []) C.hZ wc wi hf hl) (g := mkF m pc ls (argsL.reverse ++ .ref a :: rest)) rfl (hsz.trans C.hml.symm) (Steps.refl _) (a := a) (by rw [eT]; exact q) q' (argsL := argsL) (rest := rest) hlen rfl (by show 2 * 0 + _ ≤ _; omega) (hb C.hby hd) (fun _ _ => ⟨rfl, eT, hcl, hsl⟩)
  dsimp only [Pt.U, Pt.locs, Pt.cells, Pt.slots] at X' l1 y1 z1 stp hQ
  subst l1 y1 z1
  exact Go.of (fun t q => stp.trans q) (k T' T'.heap v L1 X' rfl hQ)
theorem Go.face (C : Cx p s m meth c Z own bytes maxL ret nm) (X : Stand p l e R s m args below meth c T locs cells slots) {pc n : Nat} {ls : Array Slot} {rest : List Value} (eT : T.heap = h) {index yL W : Nat} {ybytes : ByteArray} {yret : Option FieldType} {rm : Room} {Q : Option Value → Heap → List Loc → Prop} {argsL : List Value} {st : List Value} {count : Nat} {xi y : MethodName} {a : Addr} {C0 : String} (hC : Ctr l Z y ybytes yL yret rm (.ref a :: argsL).toArray h Q) (wl : (Cond.methodLink own index xi).before a0 Z = true) (wd : (Cond.declares xi).before a0 Z = true) (wf : (Cond.interfaceMethod xi.cls xi.cls xi.name xi.desc).before a0 Z = true) (wsel : (Cond.selects C0 xi y).before a0 Z = true) (wm : (Cond.instanceMethod y).before a0 Z = true) (wp : (Cond.publicMethod y).before a0 Z = true) (wu : (Cond.unhidden C0 xi.name xi.desc).before a0 Z = true) (wca : (Cond.castable C0 xi.cls).before a0 Z = true) (wi : (Cond.initialized y.cls).before a0 Z = true) (wc : (Cond.code y ybytes yL yret).before a0 Z = true) (hy : xi.cls ≠ "java/lang/invoke/MethodHandle" ∧ xi.cls ≠ "java/lang/invoke/VarHandle") (E : Exa Z h a C0)
    (hlen : ∀ sig, parseMethodDescriptor xi.desc = some sig → argsL.length = sig.parameters.length) (hst : st = argsL.reverse ++ .ref a :: rest) (hd : decode bytes pc = .ok (.invokeinterface index count, 5)) (hn : pc + 5 = n) (hsz : ls.size = maxL) (hf : rm.frames + 1 ≤ R.frames) (hW : (rest.map fun v => v.category).sum = W) (hl : W + (yL + 11) + rm.locals ≤ R.locals) (hcl : cells + rm.cells ≤ R.cells) (hsl : slots + rm.slots ≤ R.slots) 
    (k : ∀ T' h' v L, Stand p l e R s m args below meth c T' (locs ++ L) (cells + rm.cells) (slots + rm.slots) → T'.heap = h' → Q v h' L → Go p e below K (T'.setTop (mkF m n ls (v.toList ++ rest)))) : Go p e below K (T.setTop (mkF m pc ls st)) := by
  subst hn hst
  obtain ⟨cq, kq, q1, q2, q3⟩ := isOf C.hZ eT E
  obtain ⟨v, _, ⟨T', L', k', n'⟩, -, X', ⟨L1, hQ, l1, y1, z1⟩, stp⟩ := X.interfaceBack C.hx (xi := xi) (y := y) C.hown (mvT C.hZ wl) (mvT C.hZ wd) (mvT C.hZ wf (by simp [Cond.onTables, Cond.keepsFace, Cond.keeps, Cond.faceAtom, Cond.steady, hy.1, hy.2])) (mvT C.hZ wsel) (mvT C.hZ wm) (mvT C.hZ wp) (mvT C.hZ wu) (mvT C.hZ wca) hy (backOf (W := W) (hC []) C.hZ wc wi hf hl) q1 q2 q3 (g := mkF m pc ls (argsL.reverse ++ .ref a :: rest)) rfl (hsz.trans C.hml.symm) (Steps.refl _) (argsL := argsL) (rest := rest) hlen rfl (by show 2 * 0 + _ ≤ _; omega) (hb C.hby hd) (fun _ _ => ⟨rfl, eT, hcl, hsl⟩)
  dsimp only [Pt.U, Pt.locs, Pt.cells, Pt.slots] at X' l1 y1 z1 stp hQ
  subst l1 y1 z1
  exact Go.of (fun t q => stp.trans q) (k T' T'.heap v L1 X' rfl hQ)
end OwnA
end Jvm.RoadKit
namespace Jvm.RoadKit
open Sem ClassFile Op Lib Jvm.Stand Jvm.Free Jvm.LawKit
section OwnB
variable {p : Program} {l : Launch} {e : Env} {R : Room} {s : State} {m : MethodId} {args : Array Value} {below : List Frame} {meth : Method} {c : Code} {T : State} {locs : List Loc} {cells slots : Nat} {Z : State} {a0 : Array Value} {h h' : Heap} {a b : Addr} {sl : Nat} {v : Value} {ty : FieldType} {vs : List Value} {ws : List Addr}
variable {own nm : String} {bytes : ByteArray} {maxL : Nat} {ret : Option FieldType} {K : Outcome → State → Prop}
theorem wd {tab : List Jvm.Cond} {a0 : Array Value} {Z : State} (hw : ∀ d ∈ tab, d.before a0 Z = true) (k : Nat) {d : Jvm.Cond} (q : tab[k]? = some d) : d.before a0 Z = true := hw d (List.mem_of_getElem? q)
theorem Old.le {n0 : Nat} (O : Old Z n0 h) : n0 ≤ h.size := O.1 ▸ O.2.1
theorem Fr.one {k i : Nat} (q : k ≤ a) : Fr k [⟨a, i⟩] := fun y hy => by cases List.mem_singleton.mp hy; exact q
theorem Go.weaken {Q Q' : Option Value → Heap → List Loc → Prop} {k n : Nat} (q : ∀ v h L, Q v h L → Q' v h L) (g : Go p e below (EndQ s Q k n) T) : Go p e below (EndQ s Q' k n) T := by
  obtain ⟨t, o, h1, h2, h3, v, L, h4, h5, h6⟩ := g
  exact ⟨t, o, h1, h2, h3, v, L, h4, q _ _ _ h5, h6⟩
/-- an array and its components -/
def Arl (Z : State) (h : Heap) (a : Addr) (ty : FieldType) (vs : List Value) : Prop := ∃ c : Cell, Arr Z h a c ty ∧ c.slots.toList = vs ∧ vs.length < 2 ^ 31
theorem Arl.lt (F : Arl Z h a ty vs) : a < h.size := by obtain ⟨c, A, -⟩ := F; exact A.lt
theorem Arl.ext (F : Arl Z h a ty vs) (E : Ext h h') : Arl Z h' a ty vs := by obtain ⟨c, A, r⟩ := F; exact ⟨c, A.ext E, r⟩
theorem Arl.other (F : Arl Z h b ty vs) (W : Wr h h' a sl v) (q : b ≠ a) : Arl Z h' b ty vs := by obtain ⟨c, A, r⟩ := F; exact ⟨c, A.other W q, r⟩
theorem Arl.keep (F : Arl Z h a ty vs) (K : Keep h h' ws) (q : a ∉ ws) : Arl Z h' a ty vs := by obtain ⟨c, A, r⟩ := F; exact ⟨c, ⟨K.2.1 a c A.1 q, A.2⟩, r⟩
theorem Arl.set (F : Arl Z h a ty vs) (W : Wr h h' a sl v) : Arl Z h' a ty (vs.set sl v) := by
  obtain ⟨c, A, e1, r⟩ := F
  exact ⟨c.setSlot sl v, A.same W, by simp [Cell.setSlot, e1], by simpa using r⟩
theorem Arl.new {k : ClassId} {z : Int32} {n : Nat} (A : Arr Z h a (newA k ty z) ty) (hz : z.toInt = n) : Arl Z h a ty (List.replicate n (defaultValue ty)) := by
  have h1 : z.toNatClampNeg = n := by simp only [Int32.toNatClampNeg]; omega
  have h2 := Int32.toInt_lt z
  exact ⟨_, A, by simp [newA, h1], by simp; omega⟩
theorem nat_idx {j : Int32} {i : Nat} (hj : j.toInt = i) : j.toNatClampNeg = i ∧ ¬ j < 0 := by
  refine ⟨by simp only [Int32.toNatClampNeg]; omega, fun q => ?_⟩
  rw [Int32.lt_iff_toInt_lt] at q
  simp at q; omega
theorem Arl.at (F : Arl Z h a ty vs) {j : Int32} {i : Nat} (hj : j.toInt = i) (hv : vs[i]? = some v) : ∃ c : Cell, Arr Z h a c ty ∧ ¬ (j < 0 ∨ c.slots.size ≤ j.toNatClampNeg) ∧ c.slots[j.toNatClampNeg]? = some v := by
  obtain ⟨c, A, e1, r⟩ := F
  obtain ⟨q1, q2⟩ := nat_idx hj
  subst e1
  rw [Array.getElem?_toList] at hv
  obtain ⟨hlt, -⟩ := Array.getElem?_eq_some_iff.mp hv
  exact ⟨c, A, fun q => q.elim q2 (fun q => by omega), by rw [q1]; exact hv⟩
theorem Arl.in (F : Arl Z h a ty vs) {j : Int32} {i : Nat} (hj : j.toInt = i) (hi : i < vs.length) : ∃ c : Cell, Arr Z h a c ty ∧ ¬ (j < 0 ∨ c.slots.size ≤ j.toNatClampNeg) ∧ j.toNatClampNeg = i := by
  obtain ⟨c, A, e1, r⟩ := F
  obtain ⟨q1, q2⟩ := nat_idx hj
  subst e1
  rw [Array.length_toList] at hi
  exact ⟨c, A, fun q => q.elim q2 (fun q => by omega), q1⟩
section Cxs
variable (C : Cx p s m meth c Z own bytes maxL ret nm) (X : Stand p l e R s m args below meth c T locs cells slots) {pc n : Nat} {ls : Array Slot} {rest : List Value} (eT : T.heap = h) {j : Int32}
theorem Go.ialoadL (C : Cx p s m meth c Z own bytes maxL ret nm) (X : Stand p l e R s m args below meth c T locs cells slots) (eT : T.heap = h) (F : Arl Z h a .int vs) (i : Nat) (hj : j.toInt = i) (hv : vs[i]? = some v) (hd : decode bytes pc = .ok (.iaload, 1)) (hn : pc + 1 = n) (k : Go p e below K (T.setTop (mkF m n ls (v :: rest)))) : Go p e below K (T.setTop (mkF m pc ls (.int j :: .ref a :: rest))) := by
  obtain ⟨cl, A, q1, q2⟩ := F.at hj hv
  exact Go.iaload C X eT A q1 q2 hd hn k
theorem Go.caloadL (C : Cx p s m meth c Z own bytes maxL ret nm) (X : Stand p l e R s m args below meth c T locs cells slots) (eT : T.heap = h) (F : Arl Z h a .char vs) (i : Nat) (hj : j.toInt = i) (hv : vs[i]? = some v) (hd : decode bytes pc = .ok (.caload, 1)) (hn : pc + 1 = n) (k : Go p e below K (T.setTop (mkF m n ls (v :: rest)))) : Go p e below K (T.setTop (mkF m pc ls (.int j :: .ref a :: rest))) := by
  obtain ⟨cl, A, q1, q2⟩ := F.at hj hv
  exact Go.caload C X eT A q1 q2 hd hn k
theorem Go.aaloadL (C : Cx p s m meth c Z own bytes maxL ret nm) (X : Stand p l e R s m args below meth c T locs cells slots) (eT : T.heap = h) (hty : ty.isReference = true) (F : Arl Z h a ty vs) (i : Nat) (hj : j.toInt = i) (hv : vs[i]? = some v) (hd : decode bytes pc = .ok (.aaload, 1)) (hn : pc + 1 = n) (k : Go p e below K (T.setTop (mkF m n ls (v :: rest)))) : Go p e below K (T.setTop (mkF m pc ls (.int j :: .ref a :: rest))) := by
  obtain ⟨cl, A, q1, q2⟩ := F.at hj hv
  exact Go.aaload C X eT hty A q1 q2 hd hn k
theorem Go.lengthL (C : Cx p s m meth c Z own bytes maxL ret nm) (X : Stand p l e R s m args below meth c T locs cells slots) (eT : T.heap = h) (F : Arl Z h a ty vs) {z : Int32} (hz : z.toInt = vs.length) (hd : decode bytes pc = .ok (.arraylength, 1)) (hn : pc + 1 = n) (k : Go p e below K (T.setTop (mkF m n ls (.int z :: rest)))) : Go p e below K (T.setTop (mkF m pc ls (.ref a :: rest))) := by
  obtain ⟨cl, A, q1, q2⟩ := F
  refine Go.arraylength C X eT A ?_ hd hn k
  subst q1
  rw [Array.length_toList] at q2 hz
  exact Int32.toInt_inj.mp (by rw [len_toInt q2, hz])
theorem Go.iastoreL (C : Cx p s m meth c Z own bytes maxL ret nm) (X : Stand p l e R s m args below meth c T locs cells slots) (eT : T.heap = h) {x : Int32} (F : Arl Z h a .int vs) (i : Nat) (hj : j.toInt = i) (hi : i < vs.length) (hd : decode bytes pc = .ok (.iastore, 1)) (hn : pc + 1 = n)
    (k : ∀ T' h', Stand p l e R s m args below meth c T' (locs ++ [⟨a, i⟩]) cells slots → T'.heap = h' → Wr h h' a i (.int x) → Arl Z h' a .int (vs.set i (.int x)) → Go p e below K (T'.setTop (mkF m n ls rest))) : Go p e below K (T.setTop (mkF m pc ls (.int x :: .int j :: .ref a :: rest))) := by
  obtain ⟨cl, A, q1, q2⟩ := F.in hj hi
  refine Go.iastore C X eT A q1 hd hn fun T' h' X' e' W => ?_
  rw [q2] at X' W
  exact k T' h' X' e' W (F.set W)
theorem Go.castoreL (C : Cx p s m meth c Z own bytes maxL ret nm) (X : Stand p l e R s m args below meth c T locs cells slots) (eT : T.heap = h) {x : Int32} (F : Arl Z h a .char vs) (i : Nat) (hj : j.toInt = i) (hi : i < vs.length) (hd : decode bytes pc = .ok (.castore, 1)) (hn : pc + 1 = n)
    (k : ∀ T' h', Stand p l e R s m args below meth c T' (locs ++ [⟨a, i⟩]) cells slots → T'.heap = h' → Wr h h' a i (.int (nar .char x)) → Arl Z h' a .char (vs.set i (.int (nar .char x))) → Go p e below K (T'.setTop (mkF m n ls rest))) : Go p e below K (T.setTop (mkF m pc ls (.int x :: .int j :: .ref a :: rest))) := by
  obtain ⟨cl, A, q1, q2⟩ := F.in hj hi
  refine Go.castore C X eT A q1 hd hn fun T' h' X' e' W => ?_
  rw [q2] at X' W
  exact k T' h' X' e' W (F.set W)
theorem Go.bastoreL (C : Cx p s m meth c Z own bytes maxL ret nm) (X : Stand p l e R s m args below meth c T locs cells slots) (eT : T.heap = h) {x : Int32} (F : Arl Z h a .byte vs) (i : Nat) (hj : j.toInt = i) (hi : i < vs.length) (hd : decode bytes pc = .ok (.bastore, 1)) (hn : pc + 1 = n)
    (k : ∀ T' h', Stand p l e R s m args below meth c T' (locs ++ [⟨a, i⟩]) cells slots → T'.heap = h' → Wr h h' a i (.int (nar .byte x)) → Arl Z h' a .byte (vs.set i (.int (nar .byte x))) → Go p e below K (T'.setTop (mkF m n ls rest))) : Go p e below K (T.setTop (mkF m pc ls (.int x :: .int j :: .ref a :: rest))) := by
  obtain ⟨cl, A, q1, q2⟩ := F.in hj hi
  refine Go.bastoreB C X eT A q1 hd hn fun T' h' X' e' W => ?_
  rw [q2] at X' W
  exact k T' h' X' e' W (F.set W)
theorem Go.newL (C : Cx p s m meth c Z own bytes maxL ret nm) (X : Stand p l e R s m args below meth c T locs cells slots) (eT : T.heap = h) {aty : ArrayType} (w : (Cond.arrayClass (newarray.typeOf aty)).before a0 Z = true) {z : Int32} (i : Nat) (hz : z.toInt = i) (cap : Nat) (hcap : i ≤ cap) (hd : decode bytes pc = .ok (.newarray aty, 2)) (hn : pc + 2 = n) (hb8 : cap * 8 ≤ 536870912) (hc : cells + 1 ≤ R.cells) (hl : slots + cap ≤ R.slots)
    (k : ∀ T' h' a, a = h.size → Stand p l e R s m args below meth c T' locs (cells + 1) (slots + cap) → T'.heap = h' → Ext h h' → Arl Z h' a (newarray.typeOf aty) (List.replicate i (defaultValue (newarray.typeOf aty))) → Go p e below K (T'.setTop (mkF m n ls (.ref a :: rest)))) : Go p e below K (T.setTop (mkF m pc ls (.int z :: rest))) := by
  obtain ⟨q1, q2⟩ := nat_idx hz
  exact Go.newP C X eT w hd hn q2 cap (by rw [q1]; exact hcap) hb8 hc hl fun T' h' a' cA e1 X' e' E A => k T' h' a' e1 X' e' E (Arl.new A hz)
theorem Go.newLE (C : Cx p s m meth c Z own bytes maxL ret nm) (X : Stand p l e R s m args below meth c T locs cells slots) (eT : T.heap = h) {aty : ArrayType} (w : (Cond.arrayClass (newarray.typeOf aty)).before a0 Z = true) {z : Int32} (i : Nat) (hz : z.toInt = i) (cap : Nat) (hcap : i ≤ cap) (hd : decode bytes pc = .ok (.newarray aty, 2)) (hn : pc + 2 = n) (hb8 : cap * 8 ≤ 536870912) (hc : cells + 1 ≤ R.cells) (hl : slots + cap ≤ R.slots) {ad : String} (had : "[" ++ (newarray.typeOf aty).toString = ad)
    (k : ∀ T' h' a, a = h.size → Stand p l e R s m args below meth c T' locs (cells + 1) (slots + cap) → T'.heap = h' → Ext h h' → Arl Z h' a (newarray.typeOf aty) (List.replicate i (defaultValue (newarray.typeOf aty))) → Exa Z h' a ad → Go p e below K (T'.setTop (mkF m n ls (.ref a :: rest)))) : Go p e below K (T.setTop (mkF m pc ls (.int z :: rest))) := by
  obtain ⟨q1, q2⟩ := nat_idx hz
  exact Go.newPE C X eT w hd hn q2 cap (by rw [q1]; exact hcap) hb8 hc hl had fun T' h' a' cA e1 X' e' E A x' => k T' h' a' e1 X' e' E (Arl.new A hz) x'
theorem Go.cloneL (C : Cx p s m meth c Z own bytes maxL ret nm) (X : Stand p l e R s m args below meth c T locs cells slots) (eT : T.heap = h) {index : Nat} {ad : String} (w1 : (Cond.methodLink own index ⟨ad, "clone", "()Ljava/lang/Object;"⟩).before a0 Z = true) (w2 : (Cond.sameMethod ad "java/lang/Object" "clone" "()Ljava/lang/Object;").before a0 Z = true) (w3 : (Cond.native ⟨"java/lang/Object", "clone", "()Ljava/lang/Object;"⟩).before a0 Z = true) (w4 : (Cond.instanceMethod ⟨"java/lang/Object", "clone", "()Ljava/lang/Object;"⟩).before a0 Z = true) (w5 : (Cond.selects ad ⟨ad, "clone", "()Ljava/lang/Object;"⟩ ⟨"java/lang/Object", "clone", "()Ljava/lang/Object;"⟩).before a0 Z = true) (w6 : (Cond.castable ad "java/lang/Cloneable").before a0 Z = true)
    (F : Arl Z h a ty vs) (E : Exa Z h a ad) (hfit : ∀ v ∈ vs, fits ty v = true) (hd : decode bytes pc = .ok (.invokevirtual index, 3)) (hn : pc + 3 = n) (hsz : ls.size = maxL) (hf : 1 ≤ R.frames) {W : Nat} (hW : (rest.map fun v => v.category).sum = W) (hl : W + 14 ≤ R.locals) (cap : Nat) (hcap : vs.length ≤ cap) (hc : cells + 1 ≤ R.cells) (hsl : slots + cap ≤ R.slots)
    (k : ∀ T' h' b, b = h.size → Stand p l e R s m args below meth c T' locs (cells + 1) (slots + cap) → T'.heap = h' → Ext h h' → Arl Z h' b ty vs → Exa Z h' b ad → Go p e below K (T'.setTop (mkF m n ls (.ref b :: rest)))) : Go p e below K (T.setTop (mkF m pc ls (.ref a :: rest))) := by
  obtain ⟨cl, A, q1, q2⟩ := F
  have FC : FitC Z cl := fitC_of A fun i hi v hv => hfit v (by rw [← q1]; exact Array.mem_toList_iff.mpr (Array.mem_of_getElem? hv))
  exact Go.cloneA C X eT w1 w2 w3 w4 w5 w6 A E FC hd hn hsz hf hW hl cap (by rw [← Array.length_toList, q1]; exact hcap) hc hsl fun T' h' b e1 X' e' E' A' x' => k T' h' b e1 X' e' E' ⟨_, A', q1, q2⟩ x'
end Cxs
/-! from the words of a case -/
theorem fldI {args : Array Value} {t : Term} {C f d : String} {k : Int32} (ev : t.eval args s none [] s = some (.ref a)) (q : (Cond.eq (.field t C f d) (.int k)).value args s none s [] = some true) : Fld s s.heap a C f d (.int k) := by
  obtain ⟨x, y, e1, e2, k1, k2⟩ := cmp_v (Or.inl q)
  cases e2
  obtain ⟨z, rfl⟩ := k2
  have e3 : (Term.int k).eval args s none [] s = some (.int k) := rfl
  have q2 : (Cond.eq (.field t C f d) (.int k)).value args s none s [] = some (decide (z = k)) := by simp [Cond.value, e1, e3]
  have q3 := gotT q2 q
  subst q3
  rw [fld_at ev] at e1
  exact Fld.start e1
theorem staE {args : Array Value} {C n d K : String} (q : (Cond.exactly (.static C n d) K).value args s none s [] = some true) (w1 : (Cond.initialized C).before args s = true) (w2 : (Cond.laysStatic C n d).before args s = true) : ∃ a, (Term.static C n d).eval args s none [] s = some (.ref a) ∧ Sta s s.heap C n d (.ref a) ∧ Exa s s.heap a K := by
  obtain ⟨a, ev⟩ := exa_v q
  exact ⟨a, ev, Sta.start ev (Or.inr ⟨w1, w2⟩), Exa.start ev q⟩
end OwnB
end Jvm.RoadKit
namespace Jvm.RoadKit
open Sem ClassFile Op Lib Jvm.Stand Jvm.Free Jvm.LawKit
section OwnDbl
variable {p : Program} {l : Launch} {e : Env} {R : Room} {s : State} {m : MethodId} {args : Array Value} {below : List Frame} {meth : Method} {c : Code} {T : State} {locs : List Loc} {cells slots : Nat} {Z : State} {a0 : Array Value} {h h' : Heap} {a b : Addr} {sl : Nat} {v : Value} {ty : FieldType} {vs : List Value} {ws : List Addr}
variable {own nm : String} {bytes : ByteArray} {maxL : Nat} {ret : Option FieldType} {K : Outcome → State → Prop} {pc n : Nat} {ls : Array Slot} {rest : List Value} {j : Int32}
theorem Go.dloadN (C : Cx p s m meth c Z own bytes maxL ret nm) (X : Stand p l e R s m args below meth c T locs cells slots) {k : Fin 4} {v : UInt64} (hd : decode bytes pc = .ok (.dload_n k, 1)) (hn : pc + 1 = n) (hl : ls[k.val]? = some (.val (.double v))) (q : Go p e below K (T.setTop (mkF m n ls (.double v :: rest)))) : Go p e below K (T.setTop (mkF m pc ls rest)) := by
  subst hn
  exact Go.of (fun t k => XS.dloadN X.here C.hx rfl (hb C.hby hd) hl k) q
theorem Go.dload (C : Cx p s m meth c Z own bytes maxL ret nm) (X : Stand p l e R s m args below meth c T locs cells slots) {k : Nat} {v : UInt64} (hd : decode bytes pc = .ok (.dload k, 2)) (hn : pc + 2 = n) (hl : ls[k]? = some (.val (.double v))) (q : Go p e below K (T.setTop (mkF m n ls (.double v :: rest)))) : Go p e below K (T.setTop (mkF m pc ls rest)) := by
  subst hn
  exact Go.of (fun t k => XS.dload X.here C.hx rfl (hb C.hby hd) hl k) q
theorem Go.dstoreN (C : Cx p s m meth c Z own bytes maxL ret nm) (X : Stand p l e R s m args below meth c T locs cells slots) {k : Fin 4} {v : UInt64} {l' : Array Slot} (hd : decode bytes pc = .ok (.dstore_n k, 1)) (hn : pc + 1 = n) (hl : storeLocals ls k.val (.double v) = some l') (q : Go p e below K (T.setTop (mkF m n l' rest))) : Go p e below K (T.setTop (mkF m pc ls (.double v :: rest))) := by
  subst hn
  exact Go.of (fun t k => XS.dstoreN X.here C.hx rfl (hb C.hby hd) rfl hl k) q
theorem Go.i2d (C : Cx p s m meth c Z own bytes maxL ret nm) (X : Stand p l e R s m args below meth c T locs cells slots) {x : Int32} (hd : decode bytes pc = .ok (.i2d, 1)) (hn : pc + 1 = n) (q : Go p e below K (T.setTop (mkF m n ls (.double (FP.i2d x) :: rest)))) : Go p e below K (T.setTop (mkF m pc ls (.int x :: rest))) := by
  subst hn
  exact Go.of (fun t k => XS.i2dS X.here C.hx rfl (hb C.hby hd) rfl rfl k) q
theorem Go.dconst0 (C : Cx p s m meth c Z own bytes maxL ret nm) (X : Stand p l e R s m args below meth c T locs cells slots) (hd : decode bytes pc = .ok (.dconst 0, 1)) (hn : pc + 1 = n) (q : Go p e below K (T.setTop (mkF m n ls (.double FP.dconst0 :: rest)))) : Go p e below K (T.setTop (mkF m pc ls rest)) := by
  subst hn
  exact Go.of (fun t k => XS.dconst0 X.here C.hx rfl (hb C.hby hd) rfl k) q
theorem Go.dconst1 (C : Cx p s m meth c Z own bytes maxL ret nm) (X : Stand p l e R s m args below meth c T locs cells slots) (hd : decode bytes pc = .ok (.dconst 1, 1)) (hn : pc + 1 = n) (q : Go p e below K (T.setTop (mkF m n ls (.double FP.dconst1 :: rest)))) : Go p e below K (T.setTop (mkF m pc ls rest)) := by
  subst hn
  exact Go.of (fun t k => XS.dconst1 X.here C.hx rfl (hb C.hby hd) rfl k) q
theorem Go.dcmp (C : Cx p s m meth c Z own bytes maxL ret nm) (X : Stand p l e R s m args below meth c T locs cells slots) {o : CmpOp} {x y : UInt64} (z : Int32) (hv : cmpValue (FP.dcmp x y) o = z) (hd : decode bytes pc = .ok (.dcmp o, 1)) (hn : pc + 1 = n) (q : Go p e below K (T.setTop (mkF m n ls (.int z :: rest)))) : Go p e below K (T.setTop (mkF m pc ls (.double y :: .double x :: rest))) := by
  subst hn
  exact Go.of (fun t k => XS.dcmpS X.here C.hx rfl (hb C.hby hd) rfl hv k) q
theorem Go.ldc2D (C : Cx p s m meth c Z own bytes maxL ret nm) (X : Stand p l e R s m args below meth c T locs cells slots) {index : Nat} {v : UInt64} (w : (Cond.constantDouble own index v).before a0 Z = true) (hd : decode bytes pc = .ok (.ldc2_w index, 3)) (hn : pc + 3 = n) (q : Go p e below K (T.setTop (mkF m n ls (.double v :: rest)))) : Go p e below K (T.setTop (mkF m pc ls rest)) := by
  subst hn
  exact Go.of (X.ldc2DoubleC C.hx C.hown (mv C.hZ w) (g := mkF m pc ls rest) rfl (hb C.hby hd)) q
theorem Go.rawBits (C : Cx p s m meth c Z own bytes maxL ret nm) (X : Stand p l e R s m args below meth c T locs cells slots) (eT : T.heap = h) {index : Nat} {x : UInt64} (w1 : (Cond.methodLink own index doubleToRawLongBitsName).before a0 Z = true) (w2 : (Cond.native doubleToRawLongBitsName).before a0 Z = true) (w3 : (Cond.static doubleToRawLongBitsName).before a0 Z = true) (w4 : (Cond.initialized "java/lang/Double").before a0 Z = true) (hd : decode bytes pc = .ok (.invokestatic index, 3)) (hn : pc + 3 = n) (hsz : ls.size = maxL) (hf : 1 ≤ R.frames) {W : Nat} (hW : (rest.map fun v => v.category).sum = W) (hl : W + (nativeFrameWords "java/lang/Double" "doubleToRawLongBits" 2 + 11) ≤ R.locals)
    (q : ∀ T', Stand p l e R s m args below meth c T' locs cells slots → T'.heap = h → Go p e below K (T'.setTop (mkF m n ls (.long x.toInt64 :: rest)))) : Go p e below K (T.setTop (mkF m pc ls (.double x :: rest))) := by
  subst hn
  obtain ⟨vm', X', st⟩ := X.doubleToRawLongBits C.hx C.hown (mv C.hZ w1) (mv C.hZ w2) (mv C.hZ w3) (mv C.hZ w4) (g := mkF m pc ls (.double x :: rest)) rfl (hsz.trans C.hml.symm) rfl (hb C.hby hd) hf (by show 2 * 0 + _ + _ ≤ _; omega)
  exact Go.of st (q _ X' eT)
theorem Go.daloadL (C : Cx p s m meth c Z own bytes maxL ret nm) (X : Stand p l e R s m args below meth c T locs cells slots) (eT : T.heap = h) (F : Arl Z h a .double vs) (i : Nat) (hj : j.toInt = i) (hv : vs[i]? = some v) (hd : decode bytes pc = .ok (.daload, 1)) (hn : pc + 1 = n) (q : Go p e below K (T.setTop (mkF m n ls (v :: rest)))) : Go p e below K (T.setTop (mkF m pc ls (.int j :: .ref a :: rest))) := by
  subst hn
  obtain ⟨cl, A, q1, q2⟩ := F.at hj hv
  have hc : T.heap[a]? = some cl := by rw [eT]; exact A.1
  have ha := State.isArrayOf_alike (T := s) C.hZ.alike A.2.1
  exact Go.of (fun t k => X.daload C.hx hc ha A.2.2 q1 q2 (g := mkF m pc ls (.int j :: .ref a :: rest)) rfl rfl (hb C.hby hd) t k) q
theorem Go.dastoreL (C : Cx p s m meth c Z own bytes maxL ret nm) (X : Stand p l e R s m args below meth c T locs cells slots) (eT : T.heap = h) {x : UInt64} (F : Arl Z h a .double vs) (i : Nat) (hj : j.toInt = i) (hi : i < vs.length) (hd : decode bytes pc = .ok (.dastore, 1)) (hn : pc + 1 = n)
    (k : ∀ T' h', Stand p l e R s m args below meth c T' (locs ++ [⟨a, i⟩]) cells slots → T'.heap = h' → Wr h h' a i (.double x) → Arl Z h' a .double (vs.set i (.double x)) → Go p e below K (T'.setTop (mkF m n ls rest))) : Go p e below K (T.setTop (mkF m pc ls (.double x :: .int j :: .ref a :: rest))) := by
  subst hn
  obtain ⟨cl, A, q1, q2⟩ := F.in hj hi
  obtain ⟨T', h', X', e', W, st⟩ := Jvm.RoadKit.stD X C.hx C.hZ eT A q1 (g := mkF m pc ls (.double x :: .int j :: .ref a :: rest)) rfl rfl (hb C.hby hd)
  rw [q2] at X' W
  exact Go.of st (k T' h' X' e' W (F.set W))
/-- an array of 1024 components, each with P -/
def Aall (Z : State) (h : Heap) (a : Addr) (ty : FieldType) (P : Value → Prop) : Prop := ∃ vs, Arl Z h a ty vs ∧ vs.length = 1024 ∧ ∀ v ∈ vs, P v
variable {P : Value → Prop}
theorem Aall.lt (F : Aall Z h a ty P) : a < h.size := by obtain ⟨vs, V, -⟩ := F; exact V.lt
theorem Aall.ext (F : Aall Z h a ty P) (E : Ext h h') : Aall Z h' a ty P := by obtain ⟨vs, V, r⟩ := F; exact ⟨vs, V.ext E, r⟩
theorem Aall.other (F : Aall Z h b ty P) (W : Wr h h' a sl v) (q : b ≠ a) : Aall Z h' b ty P := by obtain ⟨vs, V, r⟩ := F; exact ⟨vs, V.other W q, r⟩
theorem Aall.keep (F : Aall Z h a ty P) (K : Keep h h' ws) (q : a ∉ ws) : Aall Z h' a ty P := by obtain ⟨vs, V, r⟩ := F; exact ⟨vs, V.keep K q, r⟩
theorem Aall.new (V : Arl Z h a ty (List.replicate 1024 v)) (hv : P v) : Aall Z h a ty P := ⟨_, V, List.length_replicate, fun x hx => List.eq_of_mem_replicate hx ▸ hv⟩
theorem Aall.set {i : Nat} (F : Aall Z h a ty P) (W : Wr h h' a i v) (hv : P v) : Aall Z h' a ty P := by
  obtain ⟨vs, V, hl, hP⟩ := F
  exact ⟨_, V.set W, by rw [List.length_set]; exact hl, fun x hx => (List.mem_or_eq_of_mem_set hx).elim (hP x) (fun q => q ▸ hv)⟩
theorem Aall.at {i : Nat} (F : Aall Z h a ty P) (hi : i < 1024) : ∃ vs v, Arl Z h a ty vs ∧ vs.length = 1024 ∧ vs[i]? = some v ∧ P v := by
  obtain ⟨vs, V, hl, hP⟩ := F
  have hi' : i < vs.length := by omega
  exact ⟨vs, vs[i], V, hl, List.getElem?_eq_getElem hi', hP _ (List.getElem_mem hi')⟩
def isI (v : Value) : Prop := ∃ x, v = .int x
def isD (v : Value) : Prop := ∃ x, v = .double x
def isN (v : Value) : Prop := ∃ x, v = .double x ∧ Jvm.Free.Fl.NoNaN64 x
theorem nn_i2d (x : Int32) : Jvm.Free.Fl.NoNaN64 (FP.i2d x) := nn_w (i2d_w x)
theorem nn_zero : Jvm.Free.Fl.NoNaN64 (0 : UInt64) := by show (0 : UInt64) &&& 0x7fffffffffffffff ≤ 0x7ff0000000000000; decide
end OwnDbl
end Jvm.RoadKit
@@BLOCK:NumsL.lean.txt@@
namespace Jvm.Pilot.@@N@@
open Jvm Jvm.ClassFile Sem Op Lib Jvm.Free Jvm.Stand Jvm.LawKit Jvm.RoadKit Bundle Jvm.Pilot.@@N@@.Jvm.D
/-- the queue: its fields, its five arrays -/
def SQN (Z : State) (n0 : Nat) (h : Heap) (a : Addr) (k1 k2 : Int32) : Prop := ∃ ka va ia ha hk : Addr, (n0 ≤ a ∧ n0 ≤ ka ∧ n0 ≤ va ∧ n0 ≤ ia ∧ n0 ≤ ha ∧ n0 ≤ hk) ∧ (a ≠ ka ∧ a ≠ va ∧ a ≠ ia ∧ a ≠ ha ∧ a ≠ hk ∧ ka ≠ va ∧ ka ≠ ia ∧ ka ≠ ha ∧ ka ≠ hk ∧ va ≠ ia ∧ va ≠ ha ∧ va ≠ hk ∧ ia ≠ ha ∧ ia ≠ hk ∧ ha ≠ hk) ∧ Exa Z h a "com/example/routes_to_timing/routestotiming/routing/SearchQueue" ∧ Fld Z h a "com/example/routes_to_timing/routestotiming/routing/SearchQueue" "keys" "[D" (.ref ka) ∧ Fld Z h a "com/example/routes_to_timing/routestotiming/routing/SearchQueue" "values" "[D" (.ref va) ∧ Fld Z h a "com/example/routes_to_timing/routestotiming/routing/SearchQueue" "items" "[I" (.ref ia) ∧ Fld Z h a "com/example/routes_to_timing/routestotiming/routing/SearchQueue" "heap" "[I" (.ref ha) ∧ Fld Z h a "com/example/routes_to_timing/routestotiming/routing/SearchQueue" "heapKeys" "[D" (.ref hk) ∧ Fld Z h a "com/example/routes_to_timing/routestotiming/routing/SearchQueue" "added" "I" (.int k1) ∧ Fld Z h a "com/example/routes_to_timing/routestotiming/routing/SearchQueue" "size" "I" (.int k2) ∧ Aall Z h ka .double isD ∧ Aall Z h va .double isD ∧ Aall Z h ia .int isI ∧ Aall Z h ha .int isI ∧ Aall Z h hk .double isN
theorem SQN.exa {Z : State} {n0 : Nat} {h : Heap} {a : Addr} {k1 k2 : Int32} (Q : SQN Z n0 h a k1 k2) : Exa Z h a "com/example/routes_to_timing/routestotiming/routing/SearchQueue" := by obtain ⟨_, _, _, _, _, _, _, E, -⟩ := Q; exact E
theorem SQN.size {Z : State} {n0 : Nat} {h : Heap} {a : Addr} {k1 k2 : Int32} (Q : SQN Z n0 h a k1 k2) : Fld Z h a "com/example/routes_to_timing/routestotiming/routing/SearchQueue" "size" "I" (.int k2) := by obtain ⟨_, _, _, _, _, _, _, _, _, _, _, _, _, _, F, -⟩ := Q; exact F
theorem pn_0 : plainName "com/example/routes_to_timing/routestotiming/routing/SearchQueue" = true := by first | (simp [plainName, overriddenIn]; done) | decide +kernel
theorem d1_0 : decode prog_47_method_1_code 0 = .ok (.aload_n 0, 1) := by decide +kernel
theorem d1_1 : decode prog_47_method_1_code 1 = .ok (.invokespecial 1, 3) := by decide +kernel
theorem d1_4 : decode prog_47_method_1_code 4 = .ok (.aload_n 0, 1) := by decide +kernel
theorem d1_5 : decode prog_47_method_1_code 5 = .ok (.sipush 1024, 3) := by decide +kernel
theorem d1_8 : decode prog_47_method_1_code 8 = .ok (.newarray .double, 2) := by decide +kernel
theorem d1_10 : decode prog_47_method_1_code 10 = .ok (.putfield 9, 3) := by decide +kernel
theorem d1_13 : decode prog_47_method_1_code 13 = .ok (.aload_n 0, 1) := by decide +kernel
theorem d1_14 : decode prog_47_method_1_code 14 = .ok (.sipush 1024, 3) := by decide +kernel
theorem d1_17 : decode prog_47_method_1_code 17 = .ok (.newarray .double, 2) := by decide +kernel
theorem d1_19 : decode prog_47_method_1_code 19 = .ok (.putfield 13, 3) := by decide +kernel
theorem d1_22 : decode prog_47_method_1_code 22 = .ok (.aload_n 0, 1) := by decide +kernel
theorem d1_23 : decode prog_47_method_1_code 23 = .ok (.sipush 1024, 3) := by decide +kernel
theorem d1_26 : decode prog_47_method_1_code 26 = .ok (.newarray .int, 2) := by decide +kernel
theorem d1_28 : decode prog_47_method_1_code 28 = .ok (.putfield 16, 3) := by decide +kernel
theorem d1_31 : decode prog_47_method_1_code 31 = .ok (.aload_n 0, 1) := by decide +kernel
theorem d1_32 : decode prog_47_method_1_code 32 = .ok (.sipush 1024, 3) := by decide +kernel
theorem d1_35 : decode prog_47_method_1_code 35 = .ok (.newarray .int, 2) := by decide +kernel
theorem d1_37 : decode prog_47_method_1_code 37 = .ok (.putfield 20, 3) := by decide +kernel
theorem d1_40 : decode prog_47_method_1_code 40 = .ok (.aload_n 0, 1) := by decide +kernel
theorem d1_41 : decode prog_47_method_1_code 41 = .ok (.sipush 1024, 3) := by decide +kernel
theorem d1_44 : decode prog_47_method_1_code 44 = .ok (.newarray .double, 2) := by decide +kernel
theorem d1_46 : decode prog_47_method_1_code 46 = .ok (.putfield 23, 3) := by decide +kernel
theorem d1_49 : decode prog_47_method_1_code 49 = .ok (.return_, 1) := by decide +kernel
set_option maxRecDepth 65536 in
set_option maxHeartbeats 40000000 in
theorem rm1 (l : Launch) (Z : State) (a0 : Array Value) (hw : ∀ d ∈ tables_1, d.before a0 Z = true) (n0 : Nat) (h0 : Heap) (a : Addr) (g_a : n0 ≤ a) (O : Old Z n0 h0) (E_a : Exa Z h0 a "com/example/routes_to_timing/routestotiming/routing/SearchQueue") (F_a_keys : Fld Z h0 a "com/example/routes_to_timing/routestotiming/routing/SearchQueue" "keys" "[D" .null) (F_a_values : Fld Z h0 a "com/example/routes_to_timing/routestotiming/routing/SearchQueue" "values" "[D" .null) (F_a_items : Fld Z h0 a "com/example/routes_to_timing/routestotiming/routing/SearchQueue" "items" "[I" .null) (F_a_heap : Fld Z h0 a "com/example/routes_to_timing/routestotiming/routing/SearchQueue" "heap" "[I" .null) (F_a_heapKeys : Fld Z h0 a "com/example/routes_to_timing/routestotiming/routing/SearchQueue" "heapKeys" "[D" .null) (F_a_added : Fld Z h0 a "com/example/routes_to_timing/routestotiming/routing/SearchQueue" "added" "I" (.int (0 : Int32))) (F_a_size : Fld Z h0 a "com/example/routes_to_timing/routestotiming/routing/SearchQueue" "size" "I" (.int (0 : Int32))) :
    Ctr l Z (⟨"com/example/routes_to_timing/routestotiming/routing/SearchQueue", "<init>", "()V"⟩ : MethodName) prog_47_method_1_code 1 none ({ frames := 1, cells := 5, slots := 5120, locals := 12 } : Room) #[(.ref a)] h0 (fun v h L => v = none ∧ Fr n0 L ∧ True ∧ Old Z n0 h ∧ SQN Z n0 h a 0 0) := by
  refine Ctr.mk (plainFor_of_name pn_0) (ls := #[.val (.ref a)]) (fun m => by first | (simp [entryFrame, mkF, argsToLocals, Value.category]; done) | rfl) ?_
  intro p e s m below meth c T C X eT hs0
  have N := Fr.nil n0
  show Go p e below _ (T.setTop (mkF m 0 #[.val (.ref a)] []))
  refine Go.aloadN C X d1_0 (n := 1) rfl rfl rfl ?_
  refine Go.initO C X eT (W := 0) (wd hw 6 rfl) (wd hw 7 rfl) (wd hw 8 rfl) d1_1 (n := 4) rfl rfl (by decide) rfl (by decide) ?_
  clear X eT
  intro T X eT
  refine Go.aloadN C X d1_4 (n := 5) rfl rfl rfl ?_
  refine Go.sipush C X d1_5 (n := 8) rfl (v := (1024 : Int32)) rfl ?_
  refine Go.newL C X eT (wd hw 9 rfl) (i := 1024) rfl (cap := 1024) (by decide) d1_8 (n := 10) rfl (by decide) (by decide) (by decide) ?_
  clear X eT
  intro T h ka z_ka X eT E V_ka
  have ne_a_ka : a ≠ ka := Nat.ne_of_lt (Nat.lt_of_lt_of_le E_a.lt (Nat.le_of_eq z_ka.symm))
  have g_ka : n0 ≤ ka := by rw [z_ka]; exact O.le
  replace E_a := E_a.ext E
  replace O := O.ext E
  replace F_a_keys := F_a_keys.ext E
  replace F_a_values := F_a_values.ext E
  replace F_a_items := F_a_items.ext E
  replace F_a_heap := F_a_heap.ext E
  replace F_a_heapKeys := F_a_heapKeys.ext E
  replace F_a_added := F_a_added.ext E
  replace F_a_size := F_a_size.ext E
  replace V_ka : Aall Z h ka .double isD := Aall.new V_ka ⟨_, rfl⟩
  refine Go.putF C X eT (wd hw 10 rfl) Via.refl F_a_keys E_a (Or.inl (wd hw 11 rfl)) (wd hw 1 rfl) (ty := (.array .double)) (by decide) rfl rfl d1_10 (n := 13) rfl ?_
  clear X eT
  intro T h X eT W
  replace E_a := E_a.wr W
  replace O := O.wr W g_a
  replace F_a_keys := F_a_keys.same W
  replace F_a_values := F_a_values.other W (Or.inr (slot_ne (Or.inl (wd hw 13 rfl)) (Or.inl (wd hw 11 rfl)) (by decide) (t := (.array .double)) (t' := (.array .double)) (by decide) (by decide)))
  replace F_a_items := F_a_items.other W (Or.inr (slot_ne (Or.inl (wd hw 16 rfl)) (Or.inl (wd hw 11 rfl)) (by decide) (t := (.array .int)) (t' := (.array .double)) (by decide) (by decide)))
  replace F_a_heap := F_a_heap.other W (Or.inr (slot_ne (Or.inl (wd hw 18 rfl)) (Or.inl (wd hw 11 rfl)) (by decide) (t := (.array .int)) (t' := (.array .double)) (by decide) (by decide)))
  replace F_a_heapKeys := F_a_heapKeys.other W (Or.inr (slot_ne (Or.inl (wd hw 20 rfl)) (Or.inl (wd hw 11 rfl)) (by decide) (t := (.array .double)) (t' := (.array .double)) (by decide) (by decide)))
  replace F_a_added := F_a_added.other W (Or.inr (slot_ne (Or.inl (wd hw 34 rfl)) (Or.inl (wd hw 11 rfl)) (by decide) (t := .int) (t' := (.array .double)) (by decide) (by decide)))
  replace F_a_size := F_a_size.other W (Or.inr (slot_ne (Or.inl (wd hw 27 rfl)) (Or.inl (wd hw 11 rfl)) (by decide) (t := .int) (t' := (.array .double)) (by decide) (by decide)))
  replace V_ka := V_ka.other W (Ne.symm ne_a_ka)
  replace N := Fr.snoc X N g_a
  refine Go.aloadN C X d1_13 (n := 14) rfl rfl rfl ?_
  refine Go.sipush C X d1_14 (n := 17) rfl (v := (1024 : Int32)) rfl ?_
  refine Go.newL C X eT (wd hw 9 rfl) (i := 1024) rfl (cap := 1024) (by decide) d1_17 (n := 19) rfl (by decide) (by decide) (by decide) ?_
  clear X eT
  intro T h va z_va X eT E V_va
  have ne_a_va : a ≠ va := Nat.ne_of_lt (Nat.lt_of_lt_of_le E_a.lt (Nat.le_of_eq z_va.symm))
  have ne_ka_va : ka ≠ va := Nat.ne_of_lt (Nat.lt_of_lt_of_le V_ka.lt (Nat.le_of_eq z_va.symm))
  have g_va : n0 ≤ va := by rw [z_va]; exact O.le
  replace E_a := E_a.ext E
  replace O := O.ext E
  replace F_a_keys := F_a_keys.ext E
  replace F_a_values := F_a_values.ext E
  replace F_a_items := F_a_items.ext E
  replace F_a_heap := F_a_heap.ext E
  replace F_a_heapKeys := F_a_heapKeys.ext E
  replace F_a_added := F_a_added.ext E
  replace F_a_size := F_a_size.ext E
  replace V_ka := V_ka.ext E
  replace V_va : Aall Z h va .double isD := Aall.new V_va ⟨_, rfl⟩
  refine Go.putF C X eT (wd hw 12 rfl) Via.refl F_a_values E_a (Or.inl (wd hw 13 rfl)) (wd hw 1 rfl) (ty := (.array .double)) (by decide) rfl rfl d1_19 (n := 22) rfl ?_
  clear X eT
  intro T h X eT W
  replace E_a := E_a.wr W
  replace O := O.wr W g_a
  replace F_a_keys := F_a_keys.other W (Or.inr (slot_ne (Or.inl (wd hw 11 rfl)) (Or.inl (wd hw 13 rfl)) (by decide) (t := (.array .double)) (t' := (.array .double)) (by decide) (by decide)))
  replace F_a_values := F_a_values.same W
  replace F_a_items := F_a_items.other W (Or.inr (slot_ne (Or.inl (wd hw 16 rfl)) (Or.inl (wd hw 13 rfl)) (by decide) (t := (.array .int)) (t' := (.array .double)) (by decide) (by decide)))
  replace F_a_heap := F_a_heap.other W (Or.inr (slot_ne (Or.inl (wd hw 18 rfl)) (Or.inl (wd hw 13 rfl)) (by decide) (t := (.array .int)) (t' := (.array .double)) (by decide) (by decide)))
  replace F_a_heapKeys := F_a_heapKeys.other W (Or.inr (slot_ne (Or.inl (wd hw 20 rfl)) (Or.inl (wd hw 13 rfl)) (by decide) (t := (.array .double)) (t' := (.array .double)) (by decide) (by decide)))
  replace F_a_added := F_a_added.other W (Or.inr (slot_ne (Or.inl (wd hw 34 rfl)) (Or.inl (wd hw 13 rfl)) (by decide) (t := .int) (t' := (.array .double)) (by decide) (by decide)))
  replace F_a_size := F_a_size.other W (Or.inr (slot_ne (Or.inl (wd hw 27 rfl)) (Or.inl (wd hw 13 rfl)) (by decide) (t := .int) (t' := (.array .double)) (by decide) (by decide)))
  replace V_ka := V_ka.other W (Ne.symm ne_a_ka)
  replace V_va := V_va.other W (Ne.symm ne_a_va)
  replace N := Fr.snoc X N g_a
  refine Go.aloadN C X d1_22 (n := 23) rfl rfl rfl ?_
  refine Go.sipush C X d1_23 (n := 26) rfl (v := (1024 : Int32)) rfl ?_
  refine Go.newL C X eT (wd hw 14 rfl) (i := 1024) rfl (cap := 1024) (by decide) d1_26 (n := 28) rfl (by decide) (by decide) (by decide) ?_
  clear X eT
  intro T h ia z_ia X eT E V_ia
  have ne_a_ia : a ≠ ia := Nat.ne_of_lt (Nat.lt_of_lt_of_le E_a.lt (Nat.le_of_eq z_ia.symm))
  have ne_ka_ia : ka ≠ ia := Nat.ne_of_lt (Nat.lt_of_lt_of_le V_ka.lt (Nat.le_of_eq z_ia.symm))
  have ne_va_ia : va ≠ ia := Nat.ne_of_lt (Nat.lt_of_lt_of_le V_va.lt (Nat.le_of_eq z_ia.symm))
  have g_ia : n0 ≤ ia := by rw [z_ia]; exact O.le
  replace E_a := E_a.ext E
  replace O := O.ext E
  replace F_a_keys := F_a_keys.ext E
  replace F_a_values := F_a_values.ext E
  replace F_a_items := F_a_items.ext E
  replace F_a_heap := F_a_heap.ext E
  replace F_a_heapKeys := F_a_heapKeys.ext E
  replace F_a_added := F_a_added.ext E
  replace F_a_size := F_a_size.ext E
  replace V_ka := V_ka.ext E
  replace V_va := V_va.ext E
  replace V_ia : Aall Z h ia .int isI := Aall.new V_ia ⟨_, rfl⟩
  refine Go.putF C X eT (wd hw 15 rfl) Via.refl F_a_items E_a (Or.inl (wd hw 16 rfl)) (wd hw 1 rfl) (ty := (.array .int)) (by decide) rfl rfl d1_28 (n := 31) rfl ?_
  clear X eT
  intro T h X eT W
  replace E_a := E_a.wr W
  replace O := O.wr W g_a
  replace F_a_keys := F_a_keys.other W (Or.inr (slot_ne (Or.inl (wd hw 11 rfl)) (Or.inl (wd hw 16 rfl)) (by decide) (t := (.array .double)) (t' := (.array .int)) (by decide) (by decide)))
  replace F_a_values := F_a_values.other W (Or.inr (slot_ne (Or.inl (wd hw 13 rfl)) (Or.inl (wd hw 16 rfl)) (by decide) (t := (.array .double)) (t' := (.array .int)) (by decide) (by decide)))
  replace F_a_items := F_a_items.same W
  replace F_a_heap := F_a_heap.other W (Or.inr (slot_ne (Or.inl (wd hw 18 rfl)) (Or.inl (wd hw 16 rfl)) (by decide) (t := (.array .int)) (t' := (.array .int)) (by decide) (by decide)))
  replace F_a_heapKeys := F_a_heapKeys.other W (Or.inr (slot_ne (Or.inl (wd hw 20 rfl)) (Or.inl (wd hw 16 rfl)) (by decide) (t := (.array .double)) (t' := (.array .int)) (by decide) (by decide)))
  replace F_a_added := F_a_added.other W (Or.inr (slot_ne (Or.inl (wd hw 34 rfl)) (Or.inl (wd hw 16 rfl)) (by decide) (t := .int) (t' := (.array .int)) (by decide) (by decide)))
  replace F_a_size := F_a_size.other W (Or.inr (slot_ne (Or.inl (wd hw 27 rfl)) (Or.inl (wd hw 16 rfl)) (by decide) (t := .int) (t' := (.array .int)) (by decide) (by decide)))
  replace V_ka := V_ka.other W (Ne.symm ne_a_ka)
  replace V_va := V_va.other W (Ne.symm ne_a_va)
  replace V_ia := V_ia.other W (Ne.symm ne_a_ia)
  replace N := Fr.snoc X N g_a
  refine Go.aloadN C X d1_31 (n := 32) rfl rfl rfl ?_
  refine Go.sipush C X d1_32 (n := 35) rfl (v := (1024 : Int32)) rfl ?_
  refine Go.newL C X eT (wd hw 14 rfl) (i := 1024) rfl (cap := 1024) (by decide) d1_35 (n := 37) rfl (by decide) (by decide) (by decide) ?_
  clear X eT
  intro T h ha z_ha X eT E V_ha
  have ne_a_ha : a ≠ ha := Nat.ne_of_lt (Nat.lt_of_lt_of_le E_a.lt (Nat.le_of_eq z_ha.symm))
  have ne_ka_ha : ka ≠ ha := Nat.ne_of_lt (Nat.lt_of_lt_of_le V_ka.lt (Nat.le_of_eq z_ha.symm))
  have ne_va_ha : va ≠ ha := Nat.ne_of_lt (Nat.lt_of_lt_of_le V_va.lt (Nat.le_of_eq z_ha.symm))
  have ne_ia_ha : ia ≠ ha := Nat.ne_of_lt (Nat.lt_of_lt_of_le V_ia.lt (Nat.le_of_eq z_ha.symm))
  have g_ha : n0 ≤ ha := by rw [z_ha]; exact O.le
  replace E_a := E_a.ext E
  replace O := O.ext E
  replace F_a_keys := F_a_keys.ext E
  replace F_a_values := F_a_values.ext E
  replace F_a_items := F_a_items.ext E
  replace F_a_heap := F_a_heap.ext E
  replace F_a_heapKeys := F_a_heapKeys.ext E
  replace F_a_added := F_a_added.ext E
  replace F_a_size := F_a_size.ext E
  replace V_ka := V_ka.ext E
  replace V_va := V_va.ext E
  replace V_ia := V_ia.ext E
  replace V_ha : Aall Z h ha .int isI := Aall.new V_ha ⟨_, rfl⟩
  refine Go.putF C X eT (wd hw 17 rfl) Via.refl F_a_heap E_a (Or.inl (wd hw 18 rfl)) (wd hw 1 rfl) (ty := (.array .int)) (by decide) rfl rfl d1_37 (n := 40) rfl ?_
  clear X eT
  intro T h X eT W
  replace E_a := E_a.wr W
  replace O := O.wr W g_a
  replace F_a_keys := F_a_keys.other W (Or.inr (slot_ne (Or.inl (wd hw 11 rfl)) (Or.inl (wd hw 18 rfl)) (by decide) (t := (.array .double)) (t' := (.array .int)) (by decide) (by decide)))
  replace F_a_values := F_a_values.other W (Or.inr (slot_ne (Or.inl (wd hw 13 rfl)) (Or.inl (wd hw 18 rfl)) (by decide) (t := (.array .double)) (t' := (.array .int)) (by decide) (by decide)))
  replace F_a_items := F_a_items.other W (Or.inr (slot_ne (Or.inl (wd hw 16 rfl)) (Or.inl (wd hw 18 rfl)) (by decide) (t := (.array .int)) (t' := (.array .int)) (by decide) (by decide)))
  replace F_a_heap := F_a_heap.same W
  replace F_a_heapKeys := F_a_heapKeys.other W (Or.inr (slot_ne (Or.inl (wd hw 20 rfl)) (Or.inl (wd hw 18 rfl)) (by decide) (t := (.array .double)) (t' := (.array .int)) (by decide) (by decide)))
  replace F_a_added := F_a_added.other W (Or.inr (slot_ne (Or.inl (wd hw 34 rfl)) (Or.inl (wd hw 18 rfl)) (by decide) (t := .int) (t' := (.array .int)) (by decide) (by decide)))
  replace F_a_size := F_a_size.other W (Or.inr (slot_ne (Or.inl (wd hw 27 rfl)) (Or.inl (wd hw 18 rfl)) (by decide) (t := .int) (t' := (.array .int)) (by decide) (by decide)))
  replace V_ka := V_ka.other W (Ne.symm ne_a_ka)
  replace V_va := V_va.other W (Ne.symm ne_a_va)
  replace V_ia := V_ia.other W (Ne.symm ne_a_ia)
  replace V_ha := V_ha.other W (Ne.symm ne_a_ha)
  replace N := Fr.snoc X N g_a
  refine Go.aloadN C X d1_40 (n := 41) rfl rfl rfl ?_
  refine Go.sipush C X d1_41 (n := 44) rfl (v := (1024 : Int32)) rfl ?_
  refine Go.newL C X eT (wd hw 9 rfl) (i := 1024) rfl (cap := 1024) (by decide) d1_44 (n := 46) rfl (by decide) (by decide) (by decide) ?_
  clear X eT
  intro T h hk z_hk X eT E V_hk
  have ne_a_hk : a ≠ hk := Nat.ne_of_lt (Nat.lt_of_lt_of_le E_a.lt (Nat.le_of_eq z_hk.symm))
  have ne_ka_hk : ka ≠ hk := Nat.ne_of_lt (Nat.lt_of_lt_of_le V_ka.lt (Nat.le_of_eq z_hk.symm))
  have ne_va_hk : va ≠ hk := Nat.ne_of_lt (Nat.lt_of_lt_of_le V_va.lt (Nat.le_of_eq z_hk.symm))
  have ne_ia_hk : ia ≠ hk := Nat.ne_of_lt (Nat.lt_of_lt_of_le V_ia.lt (Nat.le_of_eq z_hk.symm))
  have ne_ha_hk : ha ≠ hk := Nat.ne_of_lt (Nat.lt_of_lt_of_le V_ha.lt (Nat.le_of_eq z_hk.symm))
  have g_hk : n0 ≤ hk := by rw [z_hk]; exact O.le
  replace E_a := E_a.ext E
  replace O := O.ext E
  replace F_a_keys := F_a_keys.ext E
  replace F_a_values := F_a_values.ext E
  replace F_a_items := F_a_items.ext E
  replace F_a_heap := F_a_heap.ext E
  replace F_a_heapKeys := F_a_heapKeys.ext E
  replace F_a_added := F_a_added.ext E
  replace F_a_size := F_a_size.ext E
  replace V_ka := V_ka.ext E
  replace V_va := V_va.ext E
  replace V_ia := V_ia.ext E
  replace V_ha := V_ha.ext E
  replace V_hk : Aall Z h hk .double isN := Aall.new V_hk ⟨_, rfl, nn_zero⟩
  refine Go.putF C X eT (wd hw 19 rfl) Via.refl F_a_heapKeys E_a (Or.inl (wd hw 20 rfl)) (wd hw 1 rfl) (ty := (.array .double)) (by decide) rfl rfl d1_46 (n := 49) rfl ?_
  clear X eT
  intro T h X eT W
  replace E_a := E_a.wr W
  replace O := O.wr W g_a
  replace F_a_keys := F_a_keys.other W (Or.inr (slot_ne (Or.inl (wd hw 11 rfl)) (Or.inl (wd hw 20 rfl)) (by decide) (t := (.array .double)) (t' := (.array .double)) (by decide) (by decide)))
  replace F_a_values := F_a_values.other W (Or.inr (slot_ne (Or.inl (wd hw 13 rfl)) (Or.inl (wd hw 20 rfl)) (by decide) (t := (.array .double)) (t' := (.array .double)) (by decide) (by decide)))
  replace F_a_items := F_a_items.other W (Or.inr (slot_ne (Or.inl (wd hw 16 rfl)) (Or.inl (wd hw 20 rfl)) (by decide) (t := (.array .int)) (t' := (.array .double)) (by decide) (by decide)))
  replace F_a_heap := F_a_heap.other W (Or.inr (slot_ne (Or.inl (wd hw 18 rfl)) (Or.inl (wd hw 20 rfl)) (by decide) (t := (.array .int)) (t' := (.array .double)) (by decide) (by decide)))
  replace F_a_heapKeys := F_a_heapKeys.same W
  replace F_a_added := F_a_added.other W (Or.inr (slot_ne (Or.inl (wd hw 34 rfl)) (Or.inl (wd hw 20 rfl)) (by decide) (t := .int) (t' := (.array .double)) (by decide) (by decide)))
  replace F_a_size := F_a_size.other W (Or.inr (slot_ne (Or.inl (wd hw 27 rfl)) (Or.inl (wd hw 20 rfl)) (by decide) (t := .int) (t' := (.array .double)) (by decide) (by decide)))
  replace V_ka := V_ka.other W (Ne.symm ne_a_ka)
  replace V_va := V_va.other W (Ne.symm ne_a_va)
  replace V_ia := V_ia.other W (Ne.symm ne_a_ia)
  replace V_ha := V_ha.other W (Ne.symm ne_a_ha)
  replace V_hk := V_hk.other W (Ne.symm ne_a_hk)
  replace N := Fr.snoc X N g_a
  refine Go.ret0 C X eT d1_49 (by decide) (by decide) ?_
  exact ⟨rfl, N, trivial, O, ⟨ka, va, ia, ha, hk, ⟨g_a, g_ka, g_va, g_ia, g_ha, g_hk⟩, ⟨ne_a_ka, ne_a_va, ne_a_ia, ne_a_ha, ne_a_hk, ne_ka_va, ne_ka_ia, ne_ka_ha, ne_ka_hk, ne_va_ia, ne_va_ha, ne_va_hk, ne_ia_ha, ne_ia_hk, ne_ha_hk⟩, E_a, F_a_keys, F_a_values, F_a_items, F_a_heap, F_a_heapKeys, F_a_added, F_a_size, V_ka, V_va, V_ia, V_ha, V_hk⟩⟩
theorem d3_0 : decode prog_47_method_3_code 0 = .ok (.aload_n 0, 1) := by decide +kernel
theorem d3_1 : decode prog_47_method_3_code 1 = .ok (.getfield 30, 3) := by decide +kernel
theorem d3_4 : decode prog_47_method_3_code 4 = .ok (.ifCond .ne 7, 3) := by decide +kernel
theorem d3_7 : decode prog_47_method_3_code 7 = .ok (.iconst 1, 1) := by decide +kernel
theorem d3_8 : decode prog_47_method_3_code 8 = .ok (.goto 4, 3) := by decide +kernel
theorem d3_11 : decode prog_47_method_3_code 11 = .ok (.iconst 0, 1) := by decide +kernel
theorem d3_12 : decode prog_47_method_3_code 12 = .ok (.ireturn, 1) := by decide +kernel
set_option maxRecDepth 65536 in
set_option maxHeartbeats 40000000 in
theorem rm3 (l : Launch) (Z : State) (a0 : Array Value) (hw : ∀ d ∈ tables_1, d.before a0 Z = true) (n0 : Nat) (h0 : Heap) (a : Addr) (k : Int32) (F : Fld Z h0 a "com/example/routes_to_timing/routestotiming/routing/SearchQueue" "size" "I" (.int k)) :
    Ctr l Z (⟨"com/example/routes_to_timing/routestotiming/routing/SearchQueue", "isEmpty", "()Z"⟩ : MethodName) prog_47_method_3_code 1 (some .boolean) ({ frames := 0, cells := 0, slots := 0, locals := 0 } : Room) #[(.ref a)] h0 (fun v h L => v = some (.int (if k = 0 then 1 else 0)) ∧ L = [] ∧ h = h0) := by
  refine Ctr.mk (plainFor_of_name pn_0) (ls := #[.val (.ref a)]) (fun m => by first | (simp [entryFrame, mkF, argsToLocals, Value.category]; done) | rfl) ?_
  intro p e s m below meth c T C X eT hs0
  have N := Fr.nil n0
  show Go p e below _ (T.setTop (mkF m 0 #[.val (.ref a)] []))
  refine Go.aloadN C X d3_0 (n := 1) rfl rfl rfl ?_
  refine Go.getF C X eT (wd hw 26 rfl) Via.refl F d3_1 (n := 4) rfl ?_
  clear X eT
  intro T X eT
  refine Go.if0_ne C X d3_4 (n1 := 11) (n2 := 7) (by decide) (by decide) rfl (fun hc4 => ?_) (fun hc4 => ?_)
  · refine Go.iconst C X d3_11 (n := 12) rfl (v := (0 : Int32)) rfl ?_
    refine Go.retN C X eT (Or.inl rfl) (w := (0 : Int32)) (by decide) d3_12 (by decide) (by decide) ?_
    exact ⟨by simp [hc4], rfl, rfl⟩
  · refine Go.iconst C X d3_7 (n := 8) rfl (v := (1 : Int32)) rfl ?_
    refine Go.goto C X d3_8 (n := 12) (by decide) (by decide) ?_
    refine Go.retN C X eT (Or.inl rfl) (w := (1 : Int32)) (by decide) d3_12 (by decide) (by decide) ?_
    exact ⟨by simp [hc4], rfl, rfl⟩
theorem d4_0 : decode prog_47_method_2_code 0 = .ok (.aload_n 0, 1) := by decide +kernel
theorem d4_1 : decode prog_47_method_2_code 1 = .ok (.iconst 0, 1) := by decide +kernel
theorem d4_2 : decode prog_47_method_2_code 2 = .ok (.putfield 26, 3) := by decide +kernel
theorem d4_5 : decode prog_47_method_2_code 5 = .ok (.aload_n 0, 1) := by decide +kernel
theorem d4_6 : decode prog_47_method_2_code 6 = .ok (.iconst 0, 1) := by decide +kernel
theorem d4_7 : decode prog_47_method_2_code 7 = .ok (.putfield 30, 3) := by decide +kernel
theorem d4_10 : decode prog_47_method_2_code 10 = .ok (.return_, 1) := by decide +kernel
set_option maxRecDepth 65536 in
set_option maxHeartbeats 40000000 in
theorem rm4 (l : Launch) (Z : State) (a0 : Array Value) (hw : ∀ d ∈ tables_1, d.before a0 Z = true) (n0 : Nat) (h0 : Heap) (a : Addr) (k1 k2 : Int32) (O : Old Z n0 h0) (Q : SQN Z n0 h0 a k1 k2) :
    Ctr l Z (⟨"com/example/routes_to_timing/routestotiming/routing/SearchQueue", "clear", "()V"⟩ : MethodName) prog_47_method_2_code 1 none ({ frames := 0, cells := 0, slots := 0, locals := 0 } : Room) #[(.ref a)] h0 (fun v h L => v = none ∧ Fr n0 L ∧ True ∧ Old Z n0 h ∧ SQN Z n0 h a 0 0) := by
  refine Ctr.mk (plainFor_of_name pn_0) (ls := #[.val (.ref a)]) (fun m => by first | (simp [entryFrame, mkF, argsToLocals, Value.category]; done) | rfl) ?_
  intro p e s m below meth c T C X eT hs0
  have N := Fr.nil n0
  show Go p e below _ (T.setTop (mkF m 0 #[.val (.ref a)] []))
  obtain ⟨ka, va, ia, ha, hk, ⟨g_a, g_ka, g_va, g_ia, g_ha, g_hk⟩, ⟨ne_a_ka, ne_a_va, ne_a_ia, ne_a_ha, ne_a_hk, ne_ka_va, ne_ka_ia, ne_ka_ha, ne_ka_hk, ne_va_ia, ne_va_ha, ne_va_hk, ne_ia_ha, ne_ia_hk, ne_ha_hk⟩, E_a, F_a_keys, F_a_values, F_a_items, F_a_heap, F_a_heapKeys, F_a_added, F_a_size, V_ka, V_va, V_ia, V_ha, V_hk⟩ := Q
  refine Go.aloadN C X d4_0 (n := 1) rfl rfl rfl ?_
  refine Go.iconst C X d4_1 (n := 2) rfl (v := (0 : Int32)) rfl ?_
  refine Go.putF C X eT (wd hw 33 rfl) Via.refl F_a_added E_a (Or.inl (wd hw 34 rfl)) (wd hw 1 rfl) (ty := .int) (by decide) rfl rfl d4_2 (n := 5) rfl ?_
  clear X eT
  intro T h X eT W
  replace E_a := E_a.wr W
  replace F_a_keys := F_a_keys.other W (Or.inr (slot_ne (Or.inl (wd hw 11 rfl)) (Or.inl (wd hw 34 rfl)) (by decide) (t := (.array .double)) (t' := .int) (by decide) (by decide)))
  replace V_ka := V_ka.other W (Ne.symm ne_a_ka)
  replace F_a_values := F_a_values.other W (Or.inr (slot_ne (Or.inl (wd hw 13 rfl)) (Or.inl (wd hw 34 rfl)) (by decide) (t := (.array .double)) (t' := .int) (by decide) (by decide)))
  replace V_va := V_va.other W (Ne.symm ne_a_va)
  replace F_a_items := F_a_items.other W (Or.inr (slot_ne (Or.inl (wd hw 16 rfl)) (Or.inl (wd hw 34 rfl)) (by decide) (t := (.array .int)) (t' := .int) (by decide) (by decide)))
  replace V_ia := V_ia.other W (Ne.symm ne_a_ia)
  replace F_a_heap := F_a_heap.other W (Or.inr (slot_ne (Or.inl (wd hw 18 rfl)) (Or.inl (wd hw 34 rfl)) (by decide) (t := (.array .int)) (t' := .int) (by decide) (by decide)))
  replace V_ha := V_ha.other W (Ne.symm ne_a_ha)
  replace F_a_heapKeys := F_a_heapKeys.other W (Or.inr (slot_ne (Or.inl (wd hw 20 rfl)) (Or.inl (wd hw 34 rfl)) (by decide) (t := (.array .double)) (t' := .int) (by decide) (by decide)))
  replace V_hk := V_hk.other W (Ne.symm ne_a_hk)
  replace F_a_added := F_a_added.same W
  replace F_a_size := F_a_size.other W (Or.inr (slot_ne (Or.inl (wd hw 27 rfl)) (Or.inl (wd hw 34 rfl)) (by decide) (t := .int) (t' := .int) (by decide) (by decide)))
  replace O := O.wr W g_a
  replace N := Fr.snoc X N g_a
  refine Go.aloadN C X d4_5 (n := 6) rfl rfl rfl ?_
  refine Go.iconst C X d4_6 (n := 7) rfl (v := (0 : Int32)) rfl ?_
  refine Go.putF C X eT (wd hw 26 rfl) Via.refl F_a_size E_a (Or.inl (wd hw 27 rfl)) (wd hw 1 rfl) (ty := .int) (by decide) rfl rfl d4_7 (n := 10) rfl ?_
  clear X eT
  intro T h X eT W
  replace E_a := E_a.wr W
  replace F_a_keys := F_a_keys.other W (Or.inr (slot_ne (Or.inl (wd hw 11 rfl)) (Or.inl (wd hw 27 rfl)) (by decide) (t := (.array .double)) (t' := .int) (by decide) (by decide)))
  replace V_ka := V_ka.other W (Ne.symm ne_a_ka)
  replace F_a_values := F_a_values.other W (Or.inr (slot_ne (Or.inl (wd hw 13 rfl)) (Or.inl (wd hw 27 rfl)) (by decide) (t := (.array .double)) (t' := .int) (by decide) (by decide)))
  replace V_va := V_va.other W (Ne.symm ne_a_va)
  replace F_a_items := F_a_items.other W (Or.inr (slot_ne (Or.inl (wd hw 16 rfl)) (Or.inl (wd hw 27 rfl)) (by decide) (t := (.array .int)) (t' := .int) (by decide) (by decide)))
  replace V_ia := V_ia.other W (Ne.symm ne_a_ia)
  replace F_a_heap := F_a_heap.other W (Or.inr (slot_ne (Or.inl (wd hw 18 rfl)) (Or.inl (wd hw 27 rfl)) (by decide) (t := (.array .int)) (t' := .int) (by decide) (by decide)))
  replace V_ha := V_ha.other W (Ne.symm ne_a_ha)
  replace F_a_heapKeys := F_a_heapKeys.other W (Or.inr (slot_ne (Or.inl (wd hw 20 rfl)) (Or.inl (wd hw 27 rfl)) (by decide) (t := (.array .double)) (t' := .int) (by decide) (by decide)))
  replace V_hk := V_hk.other W (Ne.symm ne_a_hk)
  replace F_a_added := F_a_added.other W (Or.inr (slot_ne (Or.inl (wd hw 34 rfl)) (Or.inl (wd hw 27 rfl)) (by decide) (t := .int) (t' := .int) (by decide) (by decide)))
  replace F_a_size := F_a_size.same W
  replace O := O.wr W g_a
  replace N := Fr.snoc X N g_a
  refine Go.ret0 C X eT d4_10 (by decide) (by decide) ?_
  exact ⟨rfl, N, trivial, O, ⟨ka, va, ia, ha, hk, ⟨g_a, g_ka, g_va, g_ia, g_ha, g_hk⟩, ⟨ne_a_ka, ne_a_va, ne_a_ia, ne_a_ha, ne_a_hk, ne_ka_va, ne_ka_ia, ne_ka_ha, ne_ka_hk, ne_va_ia, ne_va_ha, ne_va_hk, ne_ia_ha, ne_ia_hk, ne_ha_hk⟩, E_a, F_a_keys, F_a_values, F_a_items, F_a_heap, F_a_heapKeys, F_a_added, F_a_size, V_ka, V_va, V_ia, V_ha, V_hk⟩⟩
theorem pn_1 : plainName "java/lang/Double" = true := by first | (simp [plainName, overriddenIn]; done) | decide +kernel
theorem d10_0 : decode jdk_117_method_6_code 0 = .ok (.dload_n 0, 1) := by decide +kernel
theorem d10_1 : decode jdk_117_method_6_code 1 = .ok (.dload_n 0, 1) := by decide +kernel
theorem d10_2 : decode jdk_117_method_6_code 2 = .ok (.dcmp .l, 1) := by decide +kernel
theorem d10_3 : decode jdk_117_method_6_code 3 = .ok (.ifCond .eq 7, 3) := by decide +kernel
theorem d10_6 : decode jdk_117_method_6_code 6 = .ok (.iconst 1, 1) := by decide +kernel
theorem d10_7 : decode jdk_117_method_6_code 7 = .ok (.goto 4, 3) := by decide +kernel
theorem d10_10 : decode jdk_117_method_6_code 10 = .ok (.iconst 0, 1) := by decide +kernel
theorem d10_11 : decode jdk_117_method_6_code 11 = .ok (.ireturn, 1) := by decide +kernel
set_option maxRecDepth 65536 in
set_option maxHeartbeats 40000000 in
theorem rm10 (l : Launch) (Z : State) (a0 : Array Value) (hw : ∀ d ∈ tables_1, d.before a0 Z = true) (n0 : Nat) (h0 : Heap) (d : UInt64) (hd : Jvm.Free.Fl.NoNaN64 d) :
    Ctr l Z (⟨"java/lang/Double", "isNaN", "(D)Z"⟩ : MethodName) jdk_117_method_6_code 2 (some .boolean) ({ frames := 0, cells := 0, slots := 0, locals := 0 } : Room) #[(.double d)] h0 (fun v h L => v = some (.int 0) ∧ L = [] ∧ h = h0) := by
  refine Ctr.mk (plainFor_of_name pn_1) (ls := #[.val (.double d), .second]) (fun m => by first | (simp [entryFrame, mkF, argsToLocals, Value.category]; done) | rfl) ?_
  intro p e s m below meth c T C X eT hs0
  have N := Fr.nil n0
  show Go p e below _ (T.setTop (mkF m 0 #[.val (.double d), .second] []))
  refine Go.dloadN C X d10_0 (n := 1) rfl rfl ?_
  refine Go.dloadN C X d10_1 (n := 2) rfl rfl ?_
  refine Go.dcmp C X 0 (dcmpV_self hd _) d10_2 (n := 3) rfl ?_
  refine Go.if0_eq C X d10_3 (n1 := 10) (n2 := 6) (by decide) (by decide) rfl (fun hc3 => ?_) (fun hc3 => ?_)
  · refine Go.iconst C X d10_10 (n := 11) rfl (v := (0 : Int32)) rfl ?_
    refine Go.retN C X eT (Or.inl rfl) (w := (0 : Int32)) (by decide) d10_11 (by decide) (by decide) ?_
    exact ⟨rfl, rfl, rfl⟩
  · exact absurd hc3 (by decide)
theorem pd_0 : parseMethodDescriptor "(D)Z" = some ⟨[.double], some .boolean⟩ := by decide +kernel
theorem d9_0 : decode jdk_117_method_23_code 0 = .ok (.dload_n 0, 1) := by decide +kernel
theorem d9_1 : decode jdk_117_method_23_code 1 = .ok (.invokestatic 122, 3) := by decide +kernel
theorem d9_4 : decode jdk_117_method_23_code 4 = .ok (.ifCond .ne 8, 3) := by decide +kernel
theorem d9_7 : decode jdk_117_method_23_code 7 = .ok (.dload_n 0, 1) := by decide +kernel
theorem d9_8 : decode jdk_117_method_23_code 8 = .ok (.invokestatic 134, 3) := by decide +kernel
theorem d9_11 : decode jdk_117_method_23_code 11 = .ok (.lreturn, 1) := by decide +kernel
theorem d9_12 : decode jdk_117_method_23_code 12 = .ok (.ldc2_w 137, 3) := by decide +kernel
theorem d9_15 : decode jdk_117_method_23_code 15 = .ok (.lreturn, 1) := by decide +kernel
set_option maxRecDepth 65536 in
set_option maxHeartbeats 40000000 in
theorem rm9 (l : Launch) (Z : State) (a0 : Array Value) (hw : ∀ d ∈ tables_1, d.before a0 Z = true) (n0 : Nat) (h0 : Heap) (d : UInt64) (hd : Jvm.Free.Fl.NoNaN64 d) :
    Ctr l Z (⟨"java/lang/Double", "doubleToLongBits", "(D)J"⟩ : MethodName) jdk_117_method_23_code 2 (some .long) ({ frames := 1, cells := 0, slots := 0, locals := 40 } : Room) #[(.double d)] h0 (fun v h L => v = some (.long d.toInt64) ∧ L = [] ∧ h = h0) := by
  refine Ctr.mk (plainFor_of_name pn_1) (ls := #[.val (.double d), .second]) (fun m => by first | (simp [entryFrame, mkF, argsToLocals, Value.category]; done) | rfl) ?_
  intro p e s m below meth c T C X eT hs0
  have N := Fr.nil n0
  show Go p e below _ (T.setTop (mkF m 0 #[.val (.double d), .second] []))
  refine Go.dloadN C X d9_0 (n := 1) rfl rfl ?_
  refine Go.stat C X eT (argsL := [(.double d)]) (rest := []) (rm10 l Z a0 hw n0 _ d hd) (wd hw 56 rfl) (wd hw 57 rfl) (wd hw 50 rfl) (wd hw 58 rfl) (by decide) (lenOf pd_0 rfl) rfl d9_1 (n := 4) rfl rfl (by decide) (W := 0) rfl (by decide) (by decide) (by decide) ?_
  clear X eT
  intro T h' v L X eT hQ
  obtain ⟨rfl, rfl, hE⟩ := hQ
  replace hE := hE.symm
  subst hE
  replace N := N.app (Fr.nil n0)
  show Go p e below _ (T.setTop (mkF m 4 #[.val (.double d), .second] [(.int (0 : Int32))]))
  refine Go.if0_ne C X d9_4 (n1 := 12) (n2 := 7) (by decide) (by decide) rfl (fun hc4 => ?_) (fun hc4 => ?_)
  · exact absurd hc4 (by decide)
  · refine Go.dloadN C X d9_7 (n := 8) rfl rfl ?_
    refine Go.rawBits C X eT (wd hw 59 rfl) (wd hw 61 rfl) (wd hw 60 rfl) (wd hw 50 rfl) d9_8 (n := 11) rfl rfl (by decide) (W := 0) rfl (by decide) ?_
    clear X eT
    intro T X eT
    refine Go.retJ C X eT d9_11 (by decide) (by decide) ?_
    exact ⟨rfl, by simp, rfl⟩
theorem pd_1 : parseMethodDescriptor "(D)J" = some ⟨[.double], some .long⟩ := by decide +kernel
theorem d8_0 : decode jdk_117_method_27_code 0 = .ok (.dload_n 0, 1) := by decide +kernel
theorem d8_1 : decode jdk_117_method_27_code 1 = .ok (.dload_n 2, 1) := by decide +kernel
theorem d8_2 : decode jdk_117_method_27_code 2 = .ok (.dcmp .g, 1) := by decide +kernel
theorem d8_3 : decode jdk_117_method_27_code 3 = .ok (.ifCond .ge 5, 3) := by decide +kernel
theorem d8_6 : decode jdk_117_method_27_code 6 = .ok (.iconst (-1), 1) := by decide +kernel
theorem d8_7 : decode jdk_117_method_27_code 7 = .ok (.ireturn, 1) := by decide +kernel
theorem d8_8 : decode jdk_117_method_27_code 8 = .ok (.dload_n 0, 1) := by decide +kernel
theorem d8_9 : decode jdk_117_method_27_code 9 = .ok (.dload_n 2, 1) := by decide +kernel
theorem d8_10 : decode jdk_117_method_27_code 10 = .ok (.dcmp .l, 1) := by decide +kernel
theorem d8_11 : decode jdk_117_method_27_code 11 = .ok (.ifCond .le 5, 3) := by decide +kernel
theorem d8_14 : decode jdk_117_method_27_code 14 = .ok (.iconst 1, 1) := by decide +kernel
theorem d8_15 : decode jdk_117_method_27_code 15 = .ok (.ireturn, 1) := by decide +kernel
theorem d8_16 : decode jdk_117_method_27_code 16 = .ok (.dload_n 0, 1) := by decide +kernel
theorem d8_17 : decode jdk_117_method_27_code 17 = .ok (.invokestatic 46, 3) := by decide +kernel
theorem d8_20 : decode jdk_117_method_27_code 20 = .ok (.lstore 4, 2) := by decide +kernel
theorem d8_22 : decode jdk_117_method_27_code 22 = .ok (.dload_n 2, 1) := by decide +kernel
theorem d8_23 : decode jdk_117_method_27_code 23 = .ok (.invokestatic 46, 3) := by decide +kernel
theorem d8_26 : decode jdk_117_method_27_code 26 = .ok (.lstore 6, 2) := by decide +kernel
theorem d8_28 : decode jdk_117_method_27_code 28 = .ok (.lload 4, 2) := by decide +kernel
theorem d8_30 : decode jdk_117_method_27_code 30 = .ok (.lload 6, 2) := by decide +kernel
theorem d8_32 : decode jdk_117_method_27_code 32 = .ok (.lcmp, 1) := by decide +kernel
theorem d8_33 : decode jdk_117_method_27_code 33 = .ok (.ifCond .ne 7, 3) := by decide +kernel
theorem d8_36 : decode jdk_117_method_27_code 36 = .ok (.iconst 0, 1) := by decide +kernel
theorem d8_37 : decode jdk_117_method_27_code 37 = .ok (.goto 16, 3) := by decide +kernel
theorem d8_40 : decode jdk_117_method_27_code 40 = .ok (.lload 4, 2) := by decide +kernel
theorem d8_42 : decode jdk_117_method_27_code 42 = .ok (.lload 6, 2) := by decide +kernel
theorem d8_44 : decode jdk_117_method_27_code 44 = .ok (.lcmp, 1) := by decide +kernel
theorem d8_45 : decode jdk_117_method_27_code 45 = .ok (.ifCond .ge 7, 3) := by decide +kernel
theorem d8_48 : decode jdk_117_method_27_code 48 = .ok (.iconst (-1), 1) := by decide +kernel
theorem d8_49 : decode jdk_117_method_27_code 49 = .ok (.goto 4, 3) := by decide +kernel
theorem d8_52 : decode jdk_117_method_27_code 52 = .ok (.iconst 1, 1) := by decide +kernel
theorem d8_53 : decode jdk_117_method_27_code 53 = .ok (.ireturn, 1) := by decide +kernel
set_option maxRecDepth 65536 in
set_option maxHeartbeats 40000000 in
theorem rm8 (l : Launch) (Z : State) (a0 : Array Value) (hw : ∀ d ∈ tables_1, d.before a0 Z = true) (n0 : Nat) (h0 : Heap) (d d2 : UInt64) (hd : Jvm.Free.Fl.NoNaN64 d) (hd2 : Jvm.Free.Fl.NoNaN64 d2) :
    Ctr l Z (⟨"java/lang/Double", "compare", "(DD)I"⟩ : MethodName) jdk_117_method_27_code 8 (some .int) ({ frames := 2, cells := 0, slots := 0, locals := 53 } : Room) #[(.double d), (.double d2)] h0 (fun v h L => ∃ r : Int32, v = some (.int r) ∧ L = [] ∧ h = h0) := by
  refine Ctr.mk (plainFor_of_name pn_1) (ls := #[.val (.double d), .second, .val (.double d2), .second, .unset, .unset, .unset, .unset]) (fun m => by first | (simp [entryFrame, mkF, argsToLocals, Value.category]; done) | rfl) ?_
  intro p e s m below meth c T C X eT hs0
  have N := Fr.nil n0
  show Go p e below _ (T.setTop (mkF m 0 #[.val (.double d), .second, .val (.double d2), .second, .unset, .unset, .unset, .unset] []))
  refine Go.dloadN C X d8_0 (n := 1) rfl rfl ?_
  refine Go.dloadN C X d8_1 (n := 2) rfl rfl ?_
  obtain ⟨z2, hz2⟩ : ∃ z, cmpValue (FP.dcmp d d2) .g = z := ⟨_, rfl⟩
  refine Go.dcmp C X z2 hz2 d8_2 (n := 3) rfl ?_
  refine Go.if0_ge C X d8_3 (n1 := 8) (n2 := 6) (by decide) (by decide) rfl (fun hc3 => ?_) (fun hc3 => ?_)
  · refine Go.dloadN C X d8_8 (n := 9) rfl rfl ?_
    refine Go.dloadN C X d8_9 (n := 10) rfl rfl ?_
    obtain ⟨z10, hz10⟩ : ∃ z, cmpValue (FP.dcmp d d2) .l = z := ⟨_, rfl⟩
    refine Go.dcmp C X z10 hz10 d8_10 (n := 11) rfl ?_
    refine Go.if0_le C X d8_11 (n1 := 16) (n2 := 14) (by decide) (by decide) rfl (fun hc11 => ?_) (fun hc11 => ?_)
    · refine Go.dloadN C X d8_16 (n := 17) rfl rfl ?_
      refine Go.stat C X eT (argsL := [(.double d)]) (rest := []) (rm9 l Z a0 hw n0 _ d hd) (wd hw 53 rfl) (wd hw 54 rfl) (wd hw 50 rfl) (wd hw 55 rfl) (by decide) (lenOf pd_1 rfl) rfl d8_17 (n := 20) rfl rfl (by decide) (W := 0) rfl (by decide) (by decide) (by decide) ?_
      clear X eT
      intro T h' v L X eT hQ
      obtain ⟨rfl, rfl, hE⟩ := hQ
      replace hE := hE.symm
      subst hE
      replace N := N.app (Fr.nil n0)
      show Go p e below _ (T.setTop (mkF m 20 #[.val (.double d), .second, .val (.double d2), .second, .unset, .unset, .unset, .unset] [(.long d.toInt64)]))
      refine Go.lstore C X d8_20 (n := 22) rfl (l' := #[.val (.double d), .second, .val (.double d2), .second, .val (.long d.toInt64), .second, .unset, .unset]) rfl ?_
      refine Go.dloadN C X d8_22 (n := 23) rfl rfl ?_
      refine Go.stat C X eT (argsL := [(.double d2)]) (rest := []) (rm9 l Z a0 hw n0 _ d2 hd2) (wd hw 53 rfl) (wd hw 54 rfl) (wd hw 50 rfl) (wd hw 55 rfl) (by decide) (lenOf pd_1 rfl) rfl d8_23 (n := 26) rfl rfl (by decide) (W := 0) rfl (by decide) (by decide) (by decide) ?_
      clear X eT
      intro T h' v L X eT hQ
      obtain ⟨rfl, rfl, hE⟩ := hQ
      replace hE := hE.symm
      subst hE
      replace N := N.app (Fr.nil n0)
      show Go p e below _ (T.setTop (mkF m 26 #[.val (.double d), .second, .val (.double d2), .second, .val (.long d.toInt64), .second, .unset, .unset] [(.long d2.toInt64)]))
      refine Go.lstore C X d8_26 (n := 28) rfl (l' := #[.val (.double d), .second, .val (.double d2), .second, .val (.long d.toInt64), .second, .val (.long d2.toInt64), .second]) rfl ?_
      refine Go.lload C X d8_28 (n := 30) rfl rfl ?_
      refine Go.lload C X d8_30 (n := 32) rfl rfl ?_
      refine Go.lcmp C X d8_32 (n := 33) rfl ?_
      refine Go.lcmp_ne C X d8_33 (n1 := 40) (n2 := 36) (by decide) (by decide) rfl (fun hc33 => ?_) (fun hc33 => ?_)
      · refine Go.lload C X d8_40 (n := 42) rfl rfl ?_
        refine Go.lload C X d8_42 (n := 44) rfl rfl ?_
        refine Go.lcmp C X d8_44 (n := 45) rfl ?_
        refine Go.lcmp_ge C X d8_45 (n1 := 52) (n2 := 48) (by decide) (by decide) rfl (fun hc45 => ?_) (fun hc45 => ?_)
        · refine Go.iconst C X d8_52 (n := 53) rfl (v := (1 : Int32)) rfl ?_
          refine Go.retI C X eT d8_53 (by decide) (by decide) ?_
          exact ⟨_, rfl, by simp, rfl⟩
        · refine Go.iconst C X d8_48 (n := 49) rfl (v := (-1 : Int32)) rfl ?_
          refine Go.goto C X d8_49 (n := 53) (by decide) (by decide) ?_
          refine Go.retI C X eT d8_53 (by decide) (by decide) ?_
          exact ⟨_, rfl, by simp, rfl⟩
      · refine Go.iconst C X d8_36 (n := 37) rfl (v := (0 : Int32)) rfl ?_
        refine Go.goto C X d8_37 (n := 53) (by decide) (by decide) ?_
        refine Go.retI C X eT d8_53 (by decide) (by decide) ?_
        exact ⟨_, rfl, by simp, rfl⟩
    · refine Go.iconst C X d8_14 (n := 15) rfl (v := (1 : Int32)) rfl ?_
      refine Go.retI C X eT d8_15 (by decide) (by decide) ?_
      exact ⟨_, rfl, by simp, rfl⟩
  · refine Go.iconst C X d8_6 (n := 7) rfl (v := (-1 : Int32)) rfl ?_
    refine Go.retI C X eT d8_7 (by decide) (by decide) ?_
    exact ⟨_, rfl, by simp, rfl⟩
theorem pd_2 : parseMethodDescriptor "(DD)I" = some ⟨[.double, .double], some .int⟩ := by decide +kernel
theorem d7_0 : decode prog_47_method_9_code 0 = .ok (.dload_n 0, 1) := by decide +kernel
theorem d7_1 : decode prog_47_method_9_code 1 = .ok (.dload_n 3, 1) := by decide +kernel
theorem d7_2 : decode prog_47_method_9_code 2 = .ok (.invokestatic 47, 3) := by decide +kernel
theorem d7_5 : decode prog_47_method_9_code 5 = .ok (.istore 6, 2) := by decide +kernel
theorem d7_7 : decode prog_47_method_9_code 7 = .ok (.iload 6, 2) := by decide +kernel
theorem d7_9 : decode prog_47_method_9_code 9 = .ok (.ifCond .eq 16, 3) := by decide +kernel
theorem d7_12 : decode prog_47_method_9_code 12 = .ok (.iload 6, 2) := by decide +kernel
theorem d7_14 : decode prog_47_method_9_code 14 = .ok (.ifCond .ge 7, 3) := by decide +kernel
theorem d7_17 : decode prog_47_method_9_code 17 = .ok (.iconst 1, 1) := by decide +kernel
theorem d7_18 : decode prog_47_method_9_code 18 = .ok (.goto 18, 3) := by decide +kernel
theorem d7_21 : decode prog_47_method_9_code 21 = .ok (.iconst 0, 1) := by decide +kernel
theorem d7_22 : decode prog_47_method_9_code 22 = .ok (.goto 14, 3) := by decide +kernel
theorem d7_25 : decode prog_47_method_9_code 25 = .ok (.iload_n 2, 1) := by decide +kernel
theorem d7_26 : decode prog_47_method_9_code 26 = .ok (.iload 5, 2) := by decide +kernel
theorem d7_28 : decode prog_47_method_9_code 28 = .ok (.if_icmp .ge 7, 3) := by decide +kernel
theorem d7_31 : decode prog_47_method_9_code 31 = .ok (.iconst 1, 1) := by decide +kernel
theorem d7_32 : decode prog_47_method_9_code 32 = .ok (.goto 4, 3) := by decide +kernel
theorem d7_35 : decode prog_47_method_9_code 35 = .ok (.iconst 0, 1) := by decide +kernel
theorem d7_36 : decode prog_47_method_9_code 36 = .ok (.ireturn, 1) := by decide +kernel
set_option maxRecDepth 65536 in
set_option maxHeartbeats 40000000 in
theorem rm7 (l : Launch) (Z : State) (a0 : Array Value) (hw : ∀ d ∈ tables_1, d.before a0 Z = true) (n0 : Nat) (h0 : Heap) (d d2 : UInt64) (i i2 : Int32) (hd : Jvm.Free.Fl.NoNaN64 d) (hd2 : Jvm.Free.Fl.NoNaN64 d2) :
    Ctr l Z (⟨"com/example/routes_to_timing/routestotiming/routing/SearchQueue", "before", "(DIDI)Z"⟩ : MethodName) prog_47_method_9_code 7 (some .boolean) ({ frames := 3, cells := 0, slots := 0, locals := 72 } : Room) #[(.double d), (.int i), (.double d2), (.int i2)] h0 (fun v h L => ∃ r : Int32, v = some (.int r) ∧ L = [] ∧ h = h0) := by
  refine Ctr.mk (plainFor_of_name pn_0) (ls := #[.val (.double d), .second, .val (.int i), .val (.double d2), .second, .val (.int i2), .unset]) (fun m => by first | (simp [entryFrame, mkF, argsToLocals, Value.category]; done) | rfl) ?_
  intro p e s m below meth c T C X eT hs0
  have N := Fr.nil n0
  show Go p e below _ (T.setTop (mkF m 0 #[.val (.double d), .second, .val (.int i), .val (.double d2), .second, .val (.int i2), .unset] []))
  refine Go.dloadN C X d7_0 (n := 1) rfl rfl ?_
  refine Go.dloadN C X d7_1 (n := 2) rfl rfl ?_
  refine Go.stat C X eT (argsL := [(.double d), (.double d2)]) (rest := []) (rm8 l Z a0 hw n0 _ d d2 hd hd2) (wd hw 48 rfl) (wd hw 49 rfl) (wd hw 50 rfl) (wd hw 51 rfl) (by decide) (lenOf pd_2 rfl) rfl d7_2 (n := 5) rfl rfl (by decide) (W := 0) rfl (by decide) (by decide) (by decide) ?_
  clear X eT
  intro T h' v L X eT hQ
  obtain ⟨r, rfl, rfl, hE⟩ := hQ
  replace hE := hE.symm
  subst hE
  replace N := N.app (Fr.nil n0)
  show Go p e below _ (T.setTop (mkF m 5 #[.val (.double d), .second, .val (.int i), .val (.double d2), .second, .val (.int i2), .unset] [(.int r)]))
  refine Go.istore C X d7_5 (n := 7) rfl (l' := #[.val (.double d), .second, .val (.int i), .val (.double d2), .second, .val (.int i2), .val (.int r)]) rfl ?_
  refine Go.iload C X d7_7 (n := 9) rfl rfl ?_
  refine Go.if0_eq C X d7_9 (n1 := 25) (n2 := 12) (by decide) (by decide) rfl (fun hc9 => ?_) (fun hc9 => ?_)
  · refine Go.iloadN C X d7_25 (n := 26) rfl rfl ?_
    refine Go.iload C X d7_26 (n := 28) rfl rfl ?_
    refine Go.icmp_ge C X d7_28 (n1 := 35) (n2 := 31) (by decide) (by decide) rfl (fun hc28 => ?_) (fun hc28 => ?_)
    · refine Go.iconst C X d7_35 (n := 36) rfl (v := (0 : Int32)) rfl ?_
      refine Go.retN C X eT (Or.inl rfl) (w := (0 : Int32)) (by decide) d7_36 (by decide) (by decide) ?_
      exact ⟨_, rfl, by simp, rfl⟩
    · refine Go.iconst C X d7_31 (n := 32) rfl (v := (1 : Int32)) rfl ?_
      refine Go.goto C X d7_32 (n := 36) (by decide) (by decide) ?_
      refine Go.retN C X eT (Or.inl rfl) (w := (1 : Int32)) (by decide) d7_36 (by decide) (by decide) ?_
      exact ⟨_, rfl, by simp, rfl⟩
  · refine Go.iload C X d7_12 (n := 14) rfl rfl ?_
    refine Go.if0_ge C X d7_14 (n1 := 21) (n2 := 17) (by decide) (by decide) rfl (fun hc14 => ?_) (fun hc14 => ?_)
    · refine Go.iconst C X d7_21 (n := 22) rfl (v := (0 : Int32)) rfl ?_
      refine Go.goto C X d7_22 (n := 36) (by decide) (by decide) ?_
      refine Go.retN C X eT (Or.inl rfl) (w := (0 : Int32)) (by decide) d7_36 (by decide) (by decide) ?_
      exact ⟨_, rfl, by simp, rfl⟩
    · refine Go.iconst C X d7_17 (n := 18) rfl (v := (1 : Int32)) rfl ?_
      refine Go.goto C X d7_18 (n := 36) (by decide) (by decide) ?_
      refine Go.retN C X eT (Or.inl rfl) (w := (1 : Int32)) (by decide) d7_36 (by decide) (by decide) ?_
      exact ⟨_, rfl, by simp, rfl⟩
theorem d5_0 : decode prog_47_method_4_code 0 = .ok (.aload_n 0, 1) := by decide +kernel
theorem d5_1 : decode prog_47_method_4_code 1 = .ok (.getfield 26, 3) := by decide +kernel
theorem d5_4 : decode prog_47_method_4_code 4 = .ok (.aload_n 0, 1) := by decide +kernel
theorem d5_5 : decode prog_47_method_4_code 5 = .ok (.getfield 9, 3) := by decide +kernel
theorem d5_8 : decode prog_47_method_4_code 8 = .ok (.arraylength, 1) := by decide +kernel
theorem d5_9 : decode prog_47_method_4_code 9 = .ok (.if_icmp .ne 7, 3) := by decide +kernel
theorem d5_12 : decode prog_47_method_4_code 12 = .ok (.aload_n 0, 1) := by decide +kernel
theorem d5_13 : decode prog_47_method_4_code 13 = .ok (.invokevirtual 33, 3) := by decide +kernel
theorem d5_16 : decode prog_47_method_4_code 16 = .ok (.aload_n 0, 1) := by decide +kernel
theorem d5_17 : decode prog_47_method_4_code 17 = .ok (.dup, 1) := by decide +kernel
theorem d5_18 : decode prog_47_method_4_code 18 = .ok (.getfield 26, 3) := by decide +kernel
theorem d5_21 : decode prog_47_method_4_code 21 = .ok (.dup_x1, 1) := by decide +kernel
theorem d5_22 : decode prog_47_method_4_code 22 = .ok (.iconst 1, 1) := by decide +kernel
theorem d5_23 : decode prog_47_method_4_code 23 = .ok (.iadd, 1) := by decide +kernel
theorem d5_24 : decode prog_47_method_4_code 24 = .ok (.putfield 26, 3) := by decide +kernel
theorem d5_27 : decode prog_47_method_4_code 27 = .ok (.istore 6, 2) := by decide +kernel
theorem d5_29 : decode prog_47_method_4_code 29 = .ok (.aload_n 0, 1) := by decide +kernel
theorem d5_30 : decode prog_47_method_4_code 30 = .ok (.getfield 9, 3) := by decide +kernel
theorem d5_33 : decode prog_47_method_4_code 33 = .ok (.iload 6, 2) := by decide +kernel
theorem d5_35 : decode prog_47_method_4_code 35 = .ok (.dload_n 1, 1) := by decide +kernel
theorem d5_36 : decode prog_47_method_4_code 36 = .ok (.dastore, 1) := by decide +kernel
theorem d5_37 : decode prog_47_method_4_code 37 = .ok (.aload_n 0, 1) := by decide +kernel
theorem d5_38 : decode prog_47_method_4_code 38 = .ok (.getfield 13, 3) := by decide +kernel
theorem d5_41 : decode prog_47_method_4_code 41 = .ok (.iload 6, 2) := by decide +kernel
theorem d5_43 : decode prog_47_method_4_code 43 = .ok (.dload_n 3, 1) := by decide +kernel
theorem d5_44 : decode prog_47_method_4_code 44 = .ok (.dastore, 1) := by decide +kernel
theorem d5_45 : decode prog_47_method_4_code 45 = .ok (.aload_n 0, 1) := by decide +kernel
theorem d5_46 : decode prog_47_method_4_code 46 = .ok (.getfield 16, 3) := by decide +kernel
theorem d5_49 : decode prog_47_method_4_code 49 = .ok (.iload 6, 2) := by decide +kernel
theorem d5_51 : decode prog_47_method_4_code 51 = .ok (.iload 5, 2) := by decide +kernel
theorem d5_53 : decode prog_47_method_4_code 53 = .ok (.iastore, 1) := by decide +kernel
theorem d5_54 : decode prog_47_method_4_code 54 = .ok (.aload_n 0, 1) := by decide +kernel
theorem d5_55 : decode prog_47_method_4_code 55 = .ok (.dup, 1) := by decide +kernel
theorem d5_56 : decode prog_47_method_4_code 56 = .ok (.getfield 30, 3) := by decide +kernel
theorem d5_59 : decode prog_47_method_4_code 59 = .ok (.dup_x1, 1) := by decide +kernel
theorem d5_60 : decode prog_47_method_4_code 60 = .ok (.iconst 1, 1) := by decide +kernel
theorem d5_61 : decode prog_47_method_4_code 61 = .ok (.iadd, 1) := by decide +kernel
theorem d5_62 : decode prog_47_method_4_code 62 = .ok (.putfield 30, 3) := by decide +kernel
theorem d5_65 : decode prog_47_method_4_code 65 = .ok (.istore 7, 2) := by decide +kernel
theorem d5_67 : decode prog_47_method_4_code 67 = .ok (.iload 7, 2) := by decide +kernel
theorem d5_69 : decode prog_47_method_4_code 69 = .ok (.ifCond .le 72, 3) := by decide +kernel
theorem d5_72 : decode prog_47_method_4_code 72 = .ok (.iload 7, 2) := by decide +kernel
theorem d5_74 : decode prog_47_method_4_code 74 = .ok (.iconst 1, 1) := by decide +kernel
theorem d5_75 : decode prog_47_method_4_code 75 = .ok (.isub, 1) := by decide +kernel
theorem d5_76 : decode prog_47_method_4_code 76 = .ok (.iconst 1, 1) := by decide +kernel
theorem d5_77 : decode prog_47_method_4_code 77 = .ok (.iushr, 1) := by decide +kernel
theorem d5_78 : decode prog_47_method_4_code 78 = .ok (.istore 8, 2) := by decide +kernel
theorem d5_80 : decode prog_47_method_4_code 80 = .ok (.dload_n 1, 1) := by decide +kernel
theorem d5_81 : decode prog_47_method_4_code 81 = .ok (.iload 6, 2) := by decide +kernel
theorem d5_83 : decode prog_47_method_4_code 83 = .ok (.aload_n 0, 1) := by decide +kernel
theorem d5_84 : decode prog_47_method_4_code 84 = .ok (.getfield 23, 3) := by decide +kernel
theorem d5_87 : decode prog_47_method_4_code 87 = .ok (.iload 8, 2) := by decide +kernel
theorem d5_89 : decode prog_47_method_4_code 89 = .ok (.daload, 1) := by decide +kernel
theorem d5_90 : decode prog_47_method_4_code 90 = .ok (.aload_n 0, 1) := by decide +kernel
theorem d5_91 : decode prog_47_method_4_code 91 = .ok (.getfield 20, 3) := by decide +kernel
theorem d5_94 : decode prog_47_method_4_code 94 = .ok (.iload 8, 2) := by decide +kernel
theorem d5_96 : decode prog_47_method_4_code 96 = .ok (.iaload, 1) := by decide +kernel
theorem d5_97 : decode prog_47_method_4_code 97 = .ok (.invokestatic 36, 3) := by decide +kernel
theorem d5_100 : decode prog_47_method_4_code 100 = .ok (.ifCond .ne 6, 3) := by decide +kernel
theorem d5_103 : decode prog_47_method_4_code 103 = .ok (.goto 38, 3) := by decide +kernel
theorem d5_106 : decode prog_47_method_4_code 106 = .ok (.aload_n 0, 1) := by decide +kernel
theorem d5_107 : decode prog_47_method_4_code 107 = .ok (.getfield 20, 3) := by decide +kernel
theorem d5_110 : decode prog_47_method_4_code 110 = .ok (.iload 7, 2) := by decide +kernel
theorem d5_112 : decode prog_47_method_4_code 112 = .ok (.aload_n 0, 1) := by decide +kernel
theorem d5_113 : decode prog_47_method_4_code 113 = .ok (.getfield 20, 3) := by decide +kernel
theorem d5_116 : decode prog_47_method_4_code 116 = .ok (.iload 8, 2) := by decide +kernel
theorem d5_118 : decode prog_47_method_4_code 118 = .ok (.iaload, 1) := by decide +kernel
theorem d5_119 : decode prog_47_method_4_code 119 = .ok (.iastore, 1) := by decide +kernel
theorem d5_120 : decode prog_47_method_4_code 120 = .ok (.aload_n 0, 1) := by decide +kernel
theorem d5_121 : decode prog_47_method_4_code 121 = .ok (.getfield 23, 3) := by decide +kernel
theorem d5_124 : decode prog_47_method_4_code 124 = .ok (.iload 7, 2) := by decide +kernel
theorem d5_126 : decode prog_47_method_4_code 126 = .ok (.aload_n 0, 1) := by decide +kernel
theorem d5_127 : decode prog_47_method_4_code 127 = .ok (.getfield 23, 3) := by decide +kernel
theorem d5_130 : decode prog_47_method_4_code 130 = .ok (.iload 8, 2) := by decide +kernel
theorem d5_132 : decode prog_47_method_4_code 132 = .ok (.daload, 1) := by decide +kernel
theorem d5_133 : decode prog_47_method_4_code 133 = .ok (.dastore, 1) := by decide +kernel
theorem d5_134 : decode prog_47_method_4_code 134 = .ok (.iload 8, 2) := by decide +kernel
theorem d5_136 : decode prog_47_method_4_code 136 = .ok (.istore 7, 2) := by decide +kernel
theorem d5_138 : decode prog_47_method_4_code 138 = .ok (.goto (-71), 3) := by decide +kernel
theorem d5_141 : decode prog_47_method_4_code 141 = .ok (.aload_n 0, 1) := by decide +kernel
theorem d5_142 : decode prog_47_method_4_code 142 = .ok (.getfield 20, 3) := by decide +kernel
theorem d5_145 : decode prog_47_method_4_code 145 = .ok (.iload 7, 2) := by decide +kernel
theorem d5_147 : decode prog_47_method_4_code 147 = .ok (.iload 6, 2) := by decide +kernel
theorem d5_149 : decode prog_47_method_4_code 149 = .ok (.iastore, 1) := by decide +kernel
theorem d5_150 : decode prog_47_method_4_code 150 = .ok (.aload_n 0, 1) := by decide +kernel
theorem d5_151 : decode prog_47_method_4_code 151 = .ok (.getfield 23, 3) := by decide +kernel
theorem d5_154 : decode prog_47_method_4_code 154 = .ok (.iload 7, 2) := by decide +kernel
theorem d5_156 : decode prog_47_method_4_code 156 = .ok (.dload_n 1, 1) := by decide +kernel
theorem d5_157 : decode prog_47_method_4_code 157 = .ok (.dastore, 1) := by decide +kernel
theorem d5_158 : decode prog_47_method_4_code 158 = .ok (.iload 6, 2) := by decide +kernel
theorem d5_160 : decode prog_47_method_4_code 160 = .ok (.ireturn, 1) := by decide +kernel
set_option maxRecDepth 65536 in
set_option maxHeartbeats 40000000 in
theorem add0 (l : Launch) (Z : State) (a0 : Array Value) (hw : ∀ d ∈ tables_1, d.before a0 Z = true) (n0 : Nat) (h0 : Heap) (a : Addr) (d e1 : UInt64) (i : Int32) (hd : Jvm.Free.Fl.NoNaN64 d) (O : Old Z n0 h0) (Q : SQN Z n0 h0 a 0 0) :
    Ctr l Z (⟨"com/example/routes_to_timing/routestotiming/routing/SearchQueue", "add", "(DDI)I"⟩ : MethodName) prog_47_method_4_code 9 (some .int) ({ frames := 0, cells := 0, slots := 0, locals := 0 } : Room) #[(.ref a), (.double d), (.double e1), (.int i)] h0 (fun v h L => ∃ r : Int32, v = some (.int r) ∧ Fr n0 L ∧ True ∧ Old Z n0 h ∧ SQN Z n0 h a 1 1) := by
  refine Ctr.mk (plainFor_of_name pn_0) (ls := #[.val (.ref a), .val (.double d), .second, .val (.double e1), .second, .val (.int i), .unset, .unset, .unset]) (fun m => by first | (simp [entryFrame, mkF, argsToLocals, Value.category]; done) | rfl) ?_
  intro p e s m below meth c T C X eT hs0
  have N := Fr.nil n0
  show Go p e below _ (T.setTop (mkF m 0 #[.val (.ref a), .val (.double d), .second, .val (.double e1), .second, .val (.int i), .unset, .unset, .unset] []))
  obtain ⟨ka, va, ia, ha, hk, ⟨g_a, g_ka, g_va, g_ia, g_ha, g_hk⟩, ⟨ne_a_ka, ne_a_va, ne_a_ia, ne_a_ha, ne_a_hk, ne_ka_va, ne_ka_ia, ne_ka_ha, ne_ka_hk, ne_va_ia, ne_va_ha, ne_va_hk, ne_ia_ha, ne_ia_hk, ne_ha_hk⟩, E_a, F_a_keys, F_a_values, F_a_items, F_a_heap, F_a_heapKeys, F_a_added, F_a_size, V_ka, V_va, V_ia, V_ha, V_hk⟩ := Q
  refine Go.aloadN C X d5_0 (n := 1) rfl rfl rfl ?_
  refine Go.getF C X eT (wd hw 33 rfl) Via.refl F_a_added d5_1 (n := 4) rfl ?_
  clear X eT
  intro T X eT
  refine Go.aloadN C X d5_4 (n := 5) rfl rfl rfl ?_
  refine Go.getF C X eT (wd hw 10 rfl) Via.refl F_a_keys d5_5 (n := 8) rfl ?_
  clear X eT
  intro T X eT
  obtain ⟨vsu1, _, Vu1, hlu1, -, -⟩ := V_ka.at (i := 0) (by decide)
  refine Go.lengthL C X eT Vu1 (z := (1024 : Int32)) (by rw [hlu1]; rfl) d5_8 (n := 9) rfl ?_
  refine Go.icmp_ne C X d5_9 (n1 := 16) (n2 := 12) (by decide) (by decide) rfl (fun hc9 => ?_) (fun hc9 => ?_)
  · refine Go.aloadN C X d5_16 (n := 17) rfl rfl rfl ?_
    refine Go.dup C X d5_17 (n := 18) rfl rfl ?_
    refine Go.getF C X eT (wd hw 33 rfl) Via.refl F_a_added d5_18 (n := 21) rfl ?_
    clear X eT
    intro T X eT
    refine Go.dupX1 C X d5_21 (n := 22) rfl rfl rfl ?_
    refine Go.iconst C X d5_22 (n := 23) rfl (v := (1 : Int32)) rfl ?_
    refine Go.iadd C X d5_23 (n := 24) rfl ?_
    show Go p e below _ (T.setTop (mkF m 24 #[.val (.ref a), .val (.double d), .second, .val (.double e1), .second, .val (.int i), .unset, .unset, .unset] [(.int (1 : Int32)), (.ref a), (.int (0 : Int32))]))
    refine Go.putF C X eT (wd hw 33 rfl) Via.refl F_a_added E_a (Or.inl (wd hw 34 rfl)) (wd hw 1 rfl) (ty := .int) (by decide) rfl rfl d5_24 (n := 27) rfl ?_
    clear X eT
    intro T h X eT W
    replace E_a := E_a.wr W
    replace F_a_keys := F_a_keys.other W (Or.inr (slot_ne (Or.inl (wd hw 11 rfl)) (Or.inl (wd hw 34 rfl)) (by decide) (t := (.array .double)) (t' := .int) (by decide) (by decide)))
    replace V_ka := V_ka.other W (Ne.symm ne_a_ka)
    replace F_a_values := F_a_values.other W (Or.inr (slot_ne (Or.inl (wd hw 13 rfl)) (Or.inl (wd hw 34 rfl)) (by decide) (t := (.array .double)) (t' := .int) (by decide) (by decide)))
    replace V_va := V_va.other W (Ne.symm ne_a_va)
    replace F_a_items := F_a_items.other W (Or.inr (slot_ne (Or.inl (wd hw 16 rfl)) (Or.inl (wd hw 34 rfl)) (by decide) (t := (.array .int)) (t' := .int) (by decide) (by decide)))
    replace V_ia := V_ia.other W (Ne.symm ne_a_ia)
    replace F_a_heap := F_a_heap.other W (Or.inr (slot_ne (Or.inl (wd hw 18 rfl)) (Or.inl (wd hw 34 rfl)) (by decide) (t := (.array .int)) (t' := .int) (by decide) (by decide)))
    replace V_ha := V_ha.other W (Ne.symm ne_a_ha)
    replace F_a_heapKeys := F_a_heapKeys.other W (Or.inr (slot_ne (Or.inl (wd hw 20 rfl)) (Or.inl (wd hw 34 rfl)) (by decide) (t := (.array .double)) (t' := .int) (by decide) (by decide)))
    replace V_hk := V_hk.other W (Ne.symm ne_a_hk)
    replace F_a_added := F_a_added.same W
    replace F_a_size := F_a_size.other W (Or.inr (slot_ne (Or.inl (wd hw 27 rfl)) (Or.inl (wd hw 34 rfl)) (by decide) (t := .int) (t' := .int) (by decide) (by decide)))
    replace O := O.wr W g_a
    replace N := Fr.snoc X N g_a
    refine Go.istore C X d5_27 (n := 29) rfl (l' := #[.val (.ref a), .val (.double d), .second, .val (.double e1), .second, .val (.int i), .val (.int (0 : Int32)), .unset, .unset]) rfl ?_
    refine Go.aloadN C X d5_29 (n := 30) rfl rfl rfl ?_
    refine Go.getF C X eT (wd hw 10 rfl) Via.refl F_a_keys d5_30 (n := 33) rfl ?_
    clear X eT
    intro T X eT
    refine Go.iload C X d5_33 (n := 35) rfl rfl ?_
    refine Go.dloadN C X d5_35 (n := 36) rfl rfl ?_
    obtain ⟨vsy2, _, Vy2, hly2, -, -⟩ := V_ka.at (i := 0) (by decide)
    refine Go.dastoreL C X eT Vy2 (i := 0) rfl (by rw [hly2]; decide) d5_36 (n := 37) rfl ?_
    clear X eT
    intro T h X eT W V_new
    clear V_new Vy2
    replace E_a := E_a.wr W
    replace F_a_keys := F_a_keys.other W (Or.inl ne_a_ka)
    replace F_a_values := F_a_values.other W (Or.inl ne_a_ka)
    replace V_va := V_va.other W (Ne.symm ne_ka_va)
    replace F_a_items := F_a_items.other W (Or.inl ne_a_ka)
    replace V_ia := V_ia.other W (Ne.symm ne_ka_ia)
    replace F_a_heap := F_a_heap.other W (Or.inl ne_a_ka)
    replace V_ha := V_ha.other W (Ne.symm ne_ka_ha)
    replace F_a_heapKeys := F_a_heapKeys.other W (Or.inl ne_a_ka)
    replace V_hk := V_hk.other W (Ne.symm ne_ka_hk)
    replace F_a_added := F_a_added.other W (Or.inl ne_a_ka)
    replace F_a_size := F_a_size.other W (Or.inl ne_a_ka)
    replace O := O.wr W g_ka
    replace V_ka := V_ka.set W ⟨_, rfl⟩
    replace N := Fr.snoc X N g_ka
    refine Go.aloadN C X d5_37 (n := 38) rfl rfl rfl ?_
    refine Go.getF C X eT (wd hw 12 rfl) Via.refl F_a_values d5_38 (n := 41) rfl ?_
    clear X eT
    intro T X eT
    refine Go.iload C X d5_41 (n := 43) rfl rfl ?_
    refine Go.dloadN C X d5_43 (n := 44) rfl rfl ?_
    obtain ⟨vsy3, _, Vy3, hly3, -, -⟩ := V_va.at (i := 0) (by decide)
    refine Go.dastoreL C X eT Vy3 (i := 0) rfl (by rw [hly3]; decide) d5_44 (n := 45) rfl ?_
    clear X eT
    intro T h X eT W V_new
    clear V_new Vy3
    replace E_a := E_a.wr W
    replace F_a_keys := F_a_keys.other W (Or.inl ne_a_va)
    replace V_ka := V_ka.other W ne_ka_va
    replace F_a_values := F_a_values.other W (Or.inl ne_a_va)
    replace F_a_items := F_a_items.other W (Or.inl ne_a_va)
    replace V_ia := V_ia.other W (Ne.symm ne_va_ia)
    replace F_a_heap := F_a_heap.other W (Or.inl ne_a_va)
    replace V_ha := V_ha.other W (Ne.symm ne_va_ha)
    replace F_a_heapKeys := F_a_heapKeys.other W (Or.inl ne_a_va)
    replace V_hk := V_hk.other W (Ne.symm ne_va_hk)
    replace F_a_added := F_a_added.other W (Or.inl ne_a_va)
    replace F_a_size := F_a_size.other W (Or.inl ne_a_va)
    replace O := O.wr W g_va
    replace V_va := V_va.set W ⟨_, rfl⟩
    replace N := Fr.snoc X N g_va
    refine Go.aloadN C X d5_45 (n := 46) rfl rfl rfl ?_
    refine Go.getF C X eT (wd hw 15 rfl) Via.refl F_a_items d5_46 (n := 49) rfl ?_
    clear X eT
    intro T X eT
    refine Go.iload C X d5_49 (n := 51) rfl rfl ?_
    refine Go.iload C X d5_51 (n := 53) rfl rfl ?_
    obtain ⟨vsy4, _, Vy4, hly4, -, -⟩ := V_ia.at (i := 0) (by decide)
    refine Go.iastoreL C X eT Vy4 (i := 0) rfl (by rw [hly4]; decide) d5_53 (n := 54) rfl ?_
    clear X eT
    intro T h X eT W V_new
    clear V_new Vy4
    replace E_a := E_a.wr W
    replace F_a_keys := F_a_keys.other W (Or.inl ne_a_ia)
    replace V_ka := V_ka.other W ne_ka_ia
    replace F_a_values := F_a_values.other W (Or.inl ne_a_ia)
    replace V_va := V_va.other W ne_va_ia
    replace F_a_items := F_a_items.other W (Or.inl ne_a_ia)
    replace F_a_heap := F_a_heap.other W (Or.inl ne_a_ia)
    replace V_ha := V_ha.other W (Ne.symm ne_ia_ha)
    replace F_a_heapKeys := F_a_heapKeys.other W (Or.inl ne_a_ia)
    replace V_hk := V_hk.other W (Ne.symm ne_ia_hk)
    replace F_a_added := F_a_added.other W (Or.inl ne_a_ia)
    replace F_a_size := F_a_size.other W (Or.inl ne_a_ia)
    replace O := O.wr W g_ia
    replace V_ia := V_ia.set W ⟨_, rfl⟩
    replace N := Fr.snoc X N g_ia
    refine Go.aloadN C X d5_54 (n := 55) rfl rfl rfl ?_
    refine Go.dup C X d5_55 (n := 56) rfl rfl ?_
    refine Go.getF C X eT (wd hw 26 rfl) Via.refl F_a_size d5_56 (n := 59) rfl ?_
    clear X eT
    intro T X eT
    refine Go.dupX1 C X d5_59 (n := 60) rfl rfl rfl ?_
    refine Go.iconst C X d5_60 (n := 61) rfl (v := (1 : Int32)) rfl ?_
    refine Go.iadd C X d5_61 (n := 62) rfl ?_
    show Go p e below _ (T.setTop (mkF m 62 #[.val (.ref a), .val (.double d), .second, .val (.double e1), .second, .val (.int i), .val (.int (0 : Int32)), .unset, .unset] [(.int (1 : Int32)), (.ref a), (.int (0 : Int32))]))
    refine Go.putF C X eT (wd hw 26 rfl) Via.refl F_a_size E_a (Or.inl (wd hw 27 rfl)) (wd hw 1 rfl) (ty := .int) (by decide) rfl rfl d5_62 (n := 65) rfl ?_
    clear X eT
    intro T h X eT W
    replace E_a := E_a.wr W
    replace F_a_keys := F_a_keys.other W (Or.inr (slot_ne (Or.inl (wd hw 11 rfl)) (Or.inl (wd hw 27 rfl)) (by decide) (t := (.array .double)) (t' := .int) (by decide) (by decide)))
    replace V_ka := V_ka.other W (Ne.symm ne_a_ka)
    replace F_a_values := F_a_values.other W (Or.inr (slot_ne (Or.inl (wd hw 13 rfl)) (Or.inl (wd hw 27 rfl)) (by decide) (t := (.array .double)) (t' := .int) (by decide) (by decide)))
    replace V_va := V_va.other W (Ne.symm ne_a_va)
    replace F_a_items := F_a_items.other W (Or.inr (slot_ne (Or.inl (wd hw 16 rfl)) (Or.inl (wd hw 27 rfl)) (by decide) (t := (.array .int)) (t' := .int) (by decide) (by decide)))
    replace V_ia := V_ia.other W (Ne.symm ne_a_ia)
    replace F_a_heap := F_a_heap.other W (Or.inr (slot_ne (Or.inl (wd hw 18 rfl)) (Or.inl (wd hw 27 rfl)) (by decide) (t := (.array .int)) (t' := .int) (by decide) (by decide)))
    replace V_ha := V_ha.other W (Ne.symm ne_a_ha)
    replace F_a_heapKeys := F_a_heapKeys.other W (Or.inr (slot_ne (Or.inl (wd hw 20 rfl)) (Or.inl (wd hw 27 rfl)) (by decide) (t := (.array .double)) (t' := .int) (by decide) (by decide)))
    replace V_hk := V_hk.other W (Ne.symm ne_a_hk)
    replace F_a_added := F_a_added.other W (Or.inr (slot_ne (Or.inl (wd hw 34 rfl)) (Or.inl (wd hw 27 rfl)) (by decide) (t := .int) (t' := .int) (by decide) (by decide)))
    replace F_a_size := F_a_size.same W
    replace O := O.wr W g_a
    replace N := Fr.snoc X N g_a
    refine Go.istore C X d5_65 (n := 67) rfl (l' := #[.val (.ref a), .val (.double d), .second, .val (.double e1), .second, .val (.int i), .val (.int (0 : Int32)), .val (.int (0 : Int32)), .unset]) rfl ?_
    refine Go.iload C X d5_67 (n := 69) rfl rfl ?_
    refine Go.if0_le C X d5_69 (n1 := 141) (n2 := 72) (by decide) (by decide) rfl (fun hc69 => ?_) (fun hc69 => ?_)
    · refine Go.aloadN C X d5_141 (n := 142) rfl rfl rfl ?_
      refine Go.getF C X eT (wd hw 17 rfl) Via.refl F_a_heap d5_142 (n := 145) rfl ?_
      clear X eT
      intro T X eT
      refine Go.iload C X d5_145 (n := 147) rfl rfl ?_
      refine Go.iload C X d5_147 (n := 149) rfl rfl ?_
      obtain ⟨vsy5, _, Vy5, hly5, -, -⟩ := V_ha.at (i := 0) (by decide)
      refine Go.iastoreL C X eT Vy5 (i := 0) rfl (by rw [hly5]; decide) d5_149 (n := 150) rfl ?_
      clear X eT
      intro T h X eT W V_new
      clear V_new Vy5
      replace E_a := E_a.wr W
      replace F_a_keys := F_a_keys.other W (Or.inl ne_a_ha)
      replace V_ka := V_ka.other W ne_ka_ha
      replace F_a_values := F_a_values.other W (Or.inl ne_a_ha)
      replace V_va := V_va.other W ne_va_ha
      replace F_a_items := F_a_items.other W (Or.inl ne_a_ha)
      replace V_ia := V_ia.other W ne_ia_ha
      replace F_a_heap := F_a_heap.other W (Or.inl ne_a_ha)
      replace F_a_heapKeys := F_a_heapKeys.other W (Or.inl ne_a_ha)
      replace V_hk := V_hk.other W (Ne.symm ne_ha_hk)
      replace F_a_added := F_a_added.other W (Or.inl ne_a_ha)
      replace F_a_size := F_a_size.other W (Or.inl ne_a_ha)
      replace O := O.wr W g_ha
      replace V_ha := V_ha.set W ⟨_, rfl⟩
      replace N := Fr.snoc X N g_ha
      refine Go.aloadN C X d5_150 (n := 151) rfl rfl rfl ?_
      refine Go.getF C X eT (wd hw 19 rfl) Via.refl F_a_heapKeys d5_151 (n := 154) rfl ?_
      clear X eT
      intro T X eT
      refine Go.iload C X d5_154 (n := 156) rfl rfl ?_
      refine Go.dloadN C X d5_156 (n := 157) rfl rfl ?_
      obtain ⟨vsy6, _, Vy6, hly6, -, -⟩ := V_hk.at (i := 0) (by decide)
      refine Go.dastoreL C X eT Vy6 (i := 0) rfl (by rw [hly6]; decide) d5_157 (n := 158) rfl ?_
      clear X eT
      intro T h X eT W V_new
      clear V_new Vy6
      replace E_a := E_a.wr W
      replace F_a_keys := F_a_keys.other W (Or.inl ne_a_hk)
      replace V_ka := V_ka.other W ne_ka_hk
      replace F_a_values := F_a_values.other W (Or.inl ne_a_hk)
      replace V_va := V_va.other W ne_va_hk
      replace F_a_items := F_a_items.other W (Or.inl ne_a_hk)
      replace V_ia := V_ia.other W ne_ia_hk
      replace F_a_heap := F_a_heap.other W (Or.inl ne_a_hk)
      replace V_ha := V_ha.other W ne_ha_hk
      replace F_a_heapKeys := F_a_heapKeys.other W (Or.inl ne_a_hk)
      replace F_a_added := F_a_added.other W (Or.inl ne_a_hk)
      replace F_a_size := F_a_size.other W (Or.inl ne_a_hk)
      replace O := O.wr W g_hk
      replace V_hk := V_hk.set W ⟨_, rfl, hd⟩
      replace N := Fr.snoc X N g_hk
      refine Go.iload C X d5_158 (n := 160) rfl rfl ?_
      refine Go.retI C X eT d5_160 (by decide) (by decide) ?_
      exact ⟨_, rfl, N, trivial, O, ⟨ka, va, ia, ha, hk, ⟨g_a, g_ka, g_va, g_ia, g_ha, g_hk⟩, ⟨ne_a_ka, ne_a_va, ne_a_ia, ne_a_ha, ne_a_hk, ne_ka_va, ne_ka_ia, ne_ka_ha, ne_ka_hk, ne_va_ia, ne_va_ha, ne_va_hk, ne_ia_ha, ne_ia_hk, ne_ha_hk⟩, E_a, F_a_keys, F_a_values, F_a_items, F_a_heap, F_a_heapKeys, F_a_added, F_a_size, V_ka, V_va, V_ia, V_ha, V_hk⟩⟩
    · exact absurd hc69 (by decide)
  · exact absurd hc9 (by decide)
theorem pd_3 : parseMethodDescriptor "(DIDI)Z" = some ⟨[.double, .int, .double, .int], some .boolean⟩ := by decide +kernel
set_option maxRecDepth 65536 in
set_option maxHeartbeats 40000000 in
theorem add1 (l : Launch) (Z : State) (a0 : Array Value) (hw : ∀ d ∈ tables_1, d.before a0 Z = true) (n0 : Nat) (h0 : Heap) (a : Addr) (d e1 : UInt64) (i : Int32) (hd : Jvm.Free.Fl.NoNaN64 d) (O : Old Z n0 h0) (Q : SQN Z n0 h0 a 1 1) :
    Ctr l Z (⟨"com/example/routes_to_timing/routestotiming/routing/SearchQueue", "add", "(DDI)I"⟩ : MethodName) prog_47_method_4_code 9 (some .int) ({ frames := 4, cells := 0, slots := 0, locals := 90 } : Room) #[(.ref a), (.double d), (.double e1), (.int i)] h0 (fun v h L => ∃ r : Int32, v = some (.int r) ∧ Fr n0 L ∧ True ∧ Old Z n0 h ∧ SQN Z n0 h a 2 2) := by
  refine Ctr.mk (plainFor_of_name pn_0) (ls := #[.val (.ref a), .val (.double d), .second, .val (.double e1), .second, .val (.int i), .unset, .unset, .unset]) (fun m => by first | (simp [entryFrame, mkF, argsToLocals, Value.category]; done) | rfl) ?_
  intro p e s m below meth c T C X eT hs0
  have N := Fr.nil n0
  show Go p e below _ (T.setTop (mkF m 0 #[.val (.ref a), .val (.double d), .second, .val (.double e1), .second, .val (.int i), .unset, .unset, .unset] []))
  obtain ⟨ka, va, ia, ha, hk, ⟨g_a, g_ka, g_va, g_ia, g_ha, g_hk⟩, ⟨ne_a_ka, ne_a_va, ne_a_ia, ne_a_ha, ne_a_hk, ne_ka_va, ne_ka_ia, ne_ka_ha, ne_ka_hk, ne_va_ia, ne_va_ha, ne_va_hk, ne_ia_ha, ne_ia_hk, ne_ha_hk⟩, E_a, F_a_keys, F_a_values, F_a_items, F_a_heap, F_a_heapKeys, F_a_added, F_a_size, V_ka, V_va, V_ia, V_ha, V_hk⟩ := Q
  refine Go.aloadN C X d5_0 (n := 1) rfl rfl rfl ?_
  refine Go.getF C X eT (wd hw 33 rfl) Via.refl F_a_added d5_1 (n := 4) rfl ?_
  clear X eT
  intro T X eT
  refine Go.aloadN C X d5_4 (n := 5) rfl rfl rfl ?_
  refine Go.getF C X eT (wd hw 10 rfl) Via.refl F_a_keys d5_5 (n := 8) rfl ?_
  clear X eT
  intro T X eT
  obtain ⟨vsu7, _, Vu7, hlu7, -, -⟩ := V_ka.at (i := 0) (by decide)
  refine Go.lengthL C X eT Vu7 (z := (1024 : Int32)) (by rw [hlu7]; rfl) d5_8 (n := 9) rfl ?_
  refine Go.icmp_ne C X d5_9 (n1 := 16) (n2 := 12) (by decide) (by decide) rfl (fun hc9 => ?_) (fun hc9 => ?_)
  · refine Go.aloadN C X d5_16 (n := 17) rfl rfl rfl ?_
    refine Go.dup C X d5_17 (n := 18) rfl rfl ?_
    refine Go.getF C X eT (wd hw 33 rfl) Via.refl F_a_added d5_18 (n := 21) rfl ?_
    clear X eT
    intro T X eT
    refine Go.dupX1 C X d5_21 (n := 22) rfl rfl rfl ?_
    refine Go.iconst C X d5_22 (n := 23) rfl (v := (1 : Int32)) rfl ?_
    refine Go.iadd C X d5_23 (n := 24) rfl ?_
    show Go p e below _ (T.setTop (mkF m 24 #[.val (.ref a), .val (.double d), .second, .val (.double e1), .second, .val (.int i), .unset, .unset, .unset] [(.int (2 : Int32)), (.ref a), (.int (1 : Int32))]))
    refine Go.putF C X eT (wd hw 33 rfl) Via.refl F_a_added E_a (Or.inl (wd hw 34 rfl)) (wd hw 1 rfl) (ty := .int) (by decide) rfl rfl d5_24 (n := 27) rfl ?_
    clear X eT
    intro T h X eT W
    replace E_a := E_a.wr W
    replace F_a_keys := F_a_keys.other W (Or.inr (slot_ne (Or.inl (wd hw 11 rfl)) (Or.inl (wd hw 34 rfl)) (by decide) (t := (.array .double)) (t' := .int) (by decide) (by decide)))
    replace V_ka := V_ka.other W (Ne.symm ne_a_ka)
    replace F_a_values := F_a_values.other W (Or.inr (slot_ne (Or.inl (wd hw 13 rfl)) (Or.inl (wd hw 34 rfl)) (by decide) (t := (.array .double)) (t' := .int) (by decide) (by decide)))
    replace V_va := V_va.other W (Ne.symm ne_a_va)
    replace F_a_items := F_a_items.other W (Or.inr (slot_ne (Or.inl (wd hw 16 rfl)) (Or.inl (wd hw 34 rfl)) (by decide) (t := (.array .int)) (t' := .int) (by decide) (by decide)))
    replace V_ia := V_ia.other W (Ne.symm ne_a_ia)
    replace F_a_heap := F_a_heap.other W (Or.inr (slot_ne (Or.inl (wd hw 18 rfl)) (Or.inl (wd hw 34 rfl)) (by decide) (t := (.array .int)) (t' := .int) (by decide) (by decide)))
    replace V_ha := V_ha.other W (Ne.symm ne_a_ha)
    replace F_a_heapKeys := F_a_heapKeys.other W (Or.inr (slot_ne (Or.inl (wd hw 20 rfl)) (Or.inl (wd hw 34 rfl)) (by decide) (t := (.array .double)) (t' := .int) (by decide) (by decide)))
    replace V_hk := V_hk.other W (Ne.symm ne_a_hk)
    replace F_a_added := F_a_added.same W
    replace F_a_size := F_a_size.other W (Or.inr (slot_ne (Or.inl (wd hw 27 rfl)) (Or.inl (wd hw 34 rfl)) (by decide) (t := .int) (t' := .int) (by decide) (by decide)))
    replace O := O.wr W g_a
    replace N := Fr.snoc X N g_a
    refine Go.istore C X d5_27 (n := 29) rfl (l' := #[.val (.ref a), .val (.double d), .second, .val (.double e1), .second, .val (.int i), .val (.int (1 : Int32)), .unset, .unset]) rfl ?_
    refine Go.aloadN C X d5_29 (n := 30) rfl rfl rfl ?_
    refine Go.getF C X eT (wd hw 10 rfl) Via.refl F_a_keys d5_30 (n := 33) rfl ?_
    clear X eT
    intro T X eT
    refine Go.iload C X d5_33 (n := 35) rfl rfl ?_
    refine Go.dloadN C X d5_35 (n := 36) rfl rfl ?_
    obtain ⟨vsy8, _, Vy8, hly8, -, -⟩ := V_ka.at (i := 1) (by decide)
    refine Go.dastoreL C X eT Vy8 (i := 1) rfl (by rw [hly8]; decide) d5_36 (n := 37) rfl ?_
    clear X eT
    intro T h X eT W V_new
    clear V_new Vy8
    replace E_a := E_a.wr W
    replace F_a_keys := F_a_keys.other W (Or.inl ne_a_ka)
    replace F_a_values := F_a_values.other W (Or.inl ne_a_ka)
    replace V_va := V_va.other W (Ne.symm ne_ka_va)
    replace F_a_items := F_a_items.other W (Or.inl ne_a_ka)
    replace V_ia := V_ia.other W (Ne.symm ne_ka_ia)
    replace F_a_heap := F_a_heap.other W (Or.inl ne_a_ka)
    replace V_ha := V_ha.other W (Ne.symm ne_ka_ha)
    replace F_a_heapKeys := F_a_heapKeys.other W (Or.inl ne_a_ka)
    replace V_hk := V_hk.other W (Ne.symm ne_ka_hk)
    replace F_a_added := F_a_added.other W (Or.inl ne_a_ka)
    replace F_a_size := F_a_size.other W (Or.inl ne_a_ka)
    replace O := O.wr W g_ka
    replace V_ka := V_ka.set W ⟨_, rfl⟩
    replace N := Fr.snoc X N g_ka
    refine Go.aloadN C X d5_37 (n := 38) rfl rfl rfl ?_
    refine Go.getF C X eT (wd hw 12 rfl) Via.refl F_a_values d5_38 (n := 41) rfl ?_
    clear X eT
    intro T X eT
    refine Go.iload C X d5_41 (n := 43) rfl rfl ?_
    refine Go.dloadN C X d5_43 (n := 44) rfl rfl ?_
    obtain ⟨vsy9, _, Vy9, hly9, -, -⟩ := V_va.at (i := 1) (by decide)
    refine Go.dastoreL C X eT Vy9 (i := 1) rfl (by rw [hly9]; decide) d5_44 (n := 45) rfl ?_
    clear X eT
    intro T h X eT W V_new
    clear V_new Vy9
    replace E_a := E_a.wr W
    replace F_a_keys := F_a_keys.other W (Or.inl ne_a_va)
    replace V_ka := V_ka.other W ne_ka_va
    replace F_a_values := F_a_values.other W (Or.inl ne_a_va)
    replace F_a_items := F_a_items.other W (Or.inl ne_a_va)
    replace V_ia := V_ia.other W (Ne.symm ne_va_ia)
    replace F_a_heap := F_a_heap.other W (Or.inl ne_a_va)
    replace V_ha := V_ha.other W (Ne.symm ne_va_ha)
    replace F_a_heapKeys := F_a_heapKeys.other W (Or.inl ne_a_va)
    replace V_hk := V_hk.other W (Ne.symm ne_va_hk)
    replace F_a_added := F_a_added.other W (Or.inl ne_a_va)
    replace F_a_size := F_a_size.other W (Or.inl ne_a_va)
    replace O := O.wr W g_va
    replace V_va := V_va.set W ⟨_, rfl⟩
    replace N := Fr.snoc X N g_va
    refine Go.aloadN C X d5_45 (n := 46) rfl rfl rfl ?_
    refine Go.getF C X eT (wd hw 15 rfl) Via.refl F_a_items d5_46 (n := 49) rfl ?_
    clear X eT
    intro T X eT
    refine Go.iload C X d5_49 (n := 51) rfl rfl ?_
    refine Go.iload C X d5_51 (n := 53) rfl rfl ?_
    obtain ⟨vsy10, _, Vy10, hly10, -, -⟩ := V_ia.at (i := 1) (by decide)
    refine Go.iastoreL C X eT Vy10 (i := 1) rfl (by rw [hly10]; decide) d5_53 (n := 54) rfl ?_
    clear X eT
    intro T h X eT W V_new
    clear V_new Vy10
    replace E_a := E_a.wr W
    replace F_a_keys := F_a_keys.other W (Or.inl ne_a_ia)
    replace V_ka := V_ka.other W ne_ka_ia
    replace F_a_values := F_a_values.other W (Or.inl ne_a_ia)
    replace V_va := V_va.other W ne_va_ia
    replace F_a_items := F_a_items.other W (Or.inl ne_a_ia)
    replace F_a_heap := F_a_heap.other W (Or.inl ne_a_ia)
    replace V_ha := V_ha.other W (Ne.symm ne_ia_ha)
    replace F_a_heapKeys := F_a_heapKeys.other W (Or.inl ne_a_ia)
    replace V_hk := V_hk.other W (Ne.symm ne_ia_hk)
    replace F_a_added := F_a_added.other W (Or.inl ne_a_ia)
    replace F_a_size := F_a_size.other W (Or.inl ne_a_ia)
    replace O := O.wr W g_ia
    replace V_ia := V_ia.set W ⟨_, rfl⟩
    replace N := Fr.snoc X N g_ia
    refine Go.aloadN C X d5_54 (n := 55) rfl rfl rfl ?_
    refine Go.dup C X d5_55 (n := 56) rfl rfl ?_
    refine Go.getF C X eT (wd hw 26 rfl) Via.refl F_a_size d5_56 (n := 59) rfl ?_
    clear X eT
    intro T X eT
    refine Go.dupX1 C X d5_59 (n := 60) rfl rfl rfl ?_
    refine Go.iconst C X d5_60 (n := 61) rfl (v := (1 : Int32)) rfl ?_
    refine Go.iadd C X d5_61 (n := 62) rfl ?_
    show Go p e below _ (T.setTop (mkF m 62 #[.val (.ref a), .val (.double d), .second, .val (.double e1), .second, .val (.int i), .val (.int (1 : Int32)), .unset, .unset] [(.int (2 : Int32)), (.ref a), (.int (1 : Int32))]))
    refine Go.putF C X eT (wd hw 26 rfl) Via.refl F_a_size E_a (Or.inl (wd hw 27 rfl)) (wd hw 1 rfl) (ty := .int) (by decide) rfl rfl d5_62 (n := 65) rfl ?_
    clear X eT
    intro T h X eT W
    replace E_a := E_a.wr W
    replace F_a_keys := F_a_keys.other W (Or.inr (slot_ne (Or.inl (wd hw 11 rfl)) (Or.inl (wd hw 27 rfl)) (by decide) (t := (.array .double)) (t' := .int) (by decide) (by decide)))
    replace V_ka := V_ka.other W (Ne.symm ne_a_ka)
    replace F_a_values := F_a_values.other W (Or.inr (slot_ne (Or.inl (wd hw 13 rfl)) (Or.inl (wd hw 27 rfl)) (by decide) (t := (.array .double)) (t' := .int) (by decide) (by decide)))
    replace V_va := V_va.other W (Ne.symm ne_a_va)
    replace F_a_items := F_a_items.other W (Or.inr (slot_ne (Or.inl (wd hw 16 rfl)) (Or.inl (wd hw 27 rfl)) (by decide) (t := (.array .int)) (t' := .int) (by decide) (by decide)))
    replace V_ia := V_ia.other W (Ne.symm ne_a_ia)
    replace F_a_heap := F_a_heap.other W (Or.inr (slot_ne (Or.inl (wd hw 18 rfl)) (Or.inl (wd hw 27 rfl)) (by decide) (t := (.array .int)) (t' := .int) (by decide) (by decide)))
    replace V_ha := V_ha.other W (Ne.symm ne_a_ha)
    replace F_a_heapKeys := F_a_heapKeys.other W (Or.inr (slot_ne (Or.inl (wd hw 20 rfl)) (Or.inl (wd hw 27 rfl)) (by decide) (t := (.array .double)) (t' := .int) (by decide) (by decide)))
    replace V_hk := V_hk.other W (Ne.symm ne_a_hk)
    replace F_a_added := F_a_added.other W (Or.inr (slot_ne (Or.inl (wd hw 34 rfl)) (Or.inl (wd hw 27 rfl)) (by decide) (t := .int) (t' := .int) (by decide) (by decide)))
    replace F_a_size := F_a_size.same W
    replace O := O.wr W g_a
    replace N := Fr.snoc X N g_a
    refine Go.istore C X d5_65 (n := 67) rfl (l' := #[.val (.ref a), .val (.double d), .second, .val (.double e1), .second, .val (.int i), .val (.int (1 : Int32)), .val (.int (1 : Int32)), .unset]) rfl ?_
    refine Go.iload C X d5_67 (n := 69) rfl rfl ?_
    refine Go.if0_le C X d5_69 (n1 := 141) (n2 := 72) (by decide) (by decide) rfl (fun hc69 => ?_) (fun hc69 => ?_)
    · exact absurd hc69 (by decide)
    · refine Go.iload C X d5_72 (n := 74) rfl rfl ?_
      refine Go.iconst C X d5_74 (n := 75) rfl (v := (1 : Int32)) rfl ?_
      refine Go.isub C X d5_75 (n := 76) rfl ?_
      show Go p e below _ (T.setTop (mkF m 76 #[.val (.ref a), .val (.double d), .second, .val (.double e1), .second, .val (.int i), .val (.int (1 : Int32)), .val (.int (1 : Int32)), .unset] [(.int (0 : Int32))]))
      refine Go.iconst C X d5_76 (n := 77) rfl (v := (1 : Int32)) rfl ?_
      refine Go.iushr C X d5_77 (n := 78) rfl ?_
      show Go p e below _ (T.setTop (mkF m 78 #[.val (.ref a), .val (.double d), .second, .val (.double e1), .second, .val (.int i), .val (.int (1 : Int32)), .val (.int (1 : Int32)), .unset] [(.int (0 : Int32))]))
      refine Go.istore C X d5_78 (n := 80) rfl (l' := #[.val (.ref a), .val (.double d), .second, .val (.double e1), .second, .val (.int i), .val (.int (1 : Int32)), .val (.int (1 : Int32)), .val (.int (0 : Int32))]) rfl ?_
      refine Go.dloadN C X d5_80 (n := 81) rfl rfl ?_
      refine Go.iload C X d5_81 (n := 83) rfl rfl ?_
      refine Go.aloadN C X d5_83 (n := 84) rfl rfl rfl ?_
      refine Go.getF C X eT (wd hw 19 rfl) Via.refl F_a_heapKeys d5_84 (n := 87) rfl ?_
      clear X eT
      intro T X eT
      refine Go.iload C X d5_87 (n := 89) rfl rfl ?_
      obtain ⟨vsx11, _, Vx11, hlx11, hvx11, x11, rfl, nx11⟩ := V_hk.at (i := 0) (by decide)
      refine Go.daloadL C X eT Vx11 (i := 0) rfl hvx11 d5_89 (n := 90) rfl ?_
      refine Go.aloadN C X d5_90 (n := 91) rfl rfl rfl ?_
      refine Go.getF C X eT (wd hw 17 rfl) Via.refl F_a_heap d5_91 (n := 94) rfl ?_
      clear X eT
      intro T X eT
      refine Go.iload C X d5_94 (n := 96) rfl rfl ?_
      obtain ⟨vsx12, _, Vx12, hlx12, hvx12, x12, rfl⟩ := V_ha.at (i := 0) (by decide)
      refine Go.ialoadL C X eT Vx12 (i := 0) rfl hvx12 d5_96 (n := 97) rfl ?_
      refine Go.stat C X eT (argsL := [(.double d), (.int (1 : Int32)), (.double x11), (.int x12)]) (rest := []) (rm7 l Z a0 hw n0 _ d x11 (1 : Int32) x12 hd nx11) (wd hw 45 rfl) (wd hw 46 rfl) (wd hw 2 rfl) (wd hw 47 rfl) (by decide) (lenOf pd_3 rfl) rfl d5_97 (n := 100) rfl rfl (by decide) (W := 0) rfl (by decide) (by decide) (by decide) ?_
      clear X eT
      intro T h' v L X eT hQ
      obtain ⟨r13, rfl, rfl, hE⟩ := hQ
      replace hE := hE.symm
      subst hE
      replace N := N.app (Fr.nil n0)
      show Go p e below _ (T.setTop (mkF m 100 #[.val (.ref a), .val (.double d), .second, .val (.double e1), .second, .val (.int i), .val (.int (1 : Int32)), .val (.int (1 : Int32)), .val (.int (0 : Int32))] [(.int r13)]))
      refine Go.if0_ne C X d5_100 (n1 := 106) (n2 := 103) (by decide) (by decide) rfl (fun hc100 => ?_) (fun hc100 => ?_)
      · refine Go.aloadN C X d5_106 (n := 107) rfl rfl rfl ?_
        refine Go.getF C X eT (wd hw 17 rfl) Via.refl F_a_heap d5_107 (n := 110) rfl ?_
        clear X eT
        intro T X eT
        refine Go.iload C X d5_110 (n := 112) rfl rfl ?_
        refine Go.aloadN C X d5_112 (n := 113) rfl rfl rfl ?_
        refine Go.getF C X eT (wd hw 17 rfl) Via.refl F_a_heap d5_113 (n := 116) rfl ?_
        clear X eT
        intro T X eT
        refine Go.iload C X d5_116 (n := 118) rfl rfl ?_
        obtain ⟨vsx14, _, Vx14, hlx14, hvx14, x14, rfl⟩ := V_ha.at (i := 0) (by decide)
        refine Go.ialoadL C X eT Vx14 (i := 0) rfl hvx14 d5_118 (n := 119) rfl ?_
        obtain ⟨vsy15, _, Vy15, hly15, -, -⟩ := V_ha.at (i := 1) (by decide)
        refine Go.iastoreL C X eT Vy15 (i := 1) rfl (by rw [hly15]; decide) d5_119 (n := 120) rfl ?_
        clear X eT
        intro T h X eT W V_new
        clear V_new Vy15
        replace E_a := E_a.wr W
        replace F_a_keys := F_a_keys.other W (Or.inl ne_a_ha)
        replace V_ka := V_ka.other W ne_ka_ha
        replace F_a_values := F_a_values.other W (Or.inl ne_a_ha)
        replace V_va := V_va.other W ne_va_ha
        replace F_a_items := F_a_items.other W (Or.inl ne_a_ha)
        replace V_ia := V_ia.other W ne_ia_ha
        replace F_a_heap := F_a_heap.other W (Or.inl ne_a_ha)
        replace F_a_heapKeys := F_a_heapKeys.other W (Or.inl ne_a_ha)
        replace V_hk := V_hk.other W (Ne.symm ne_ha_hk)
        replace F_a_added := F_a_added.other W (Or.inl ne_a_ha)
        replace F_a_size := F_a_size.other W (Or.inl ne_a_ha)
        replace O := O.wr W g_ha
        replace V_ha := V_ha.set W ⟨_, rfl⟩
        replace N := Fr.snoc X N g_ha
        refine Go.aloadN C X d5_120 (n := 121) rfl rfl rfl ?_
        refine Go.getF C X eT (wd hw 19 rfl) Via.refl F_a_heapKeys d5_121 (n := 124) rfl ?_
        clear X eT
        intro T X eT
        refine Go.iload C X d5_124 (n := 126) rfl rfl ?_
        refine Go.aloadN C X d5_126 (n := 127) rfl rfl rfl ?_
        refine Go.getF C X eT (wd hw 19 rfl) Via.refl F_a_heapKeys d5_127 (n := 130) rfl ?_
        clear X eT
        intro T X eT
        refine Go.iload C X d5_130 (n := 132) rfl rfl ?_
        obtain ⟨vsx16, _, Vx16, hlx16, hvx16, x16, rfl, nx16⟩ := V_hk.at (i := 0) (by decide)
        refine Go.daloadL C X eT Vx16 (i := 0) rfl hvx16 d5_132 (n := 133) rfl ?_
        obtain ⟨vsy17, _, Vy17, hly17, -, -⟩ := V_hk.at (i := 1) (by decide)
        refine Go.dastoreL C X eT Vy17 (i := 1) rfl (by rw [hly17]; decide) d5_133 (n := 134) rfl ?_
        clear X eT
        intro T h X eT W V_new
        clear V_new Vy17
        replace E_a := E_a.wr W
        replace F_a_keys := F_a_keys.other W (Or.inl ne_a_hk)
        replace V_ka := V_ka.other W ne_ka_hk
        replace F_a_values := F_a_values.other W (Or.inl ne_a_hk)
        replace V_va := V_va.other W ne_va_hk
        replace F_a_items := F_a_items.other W (Or.inl ne_a_hk)
        replace V_ia := V_ia.other W ne_ia_hk
        replace F_a_heap := F_a_heap.other W (Or.inl ne_a_hk)
        replace V_ha := V_ha.other W ne_ha_hk
        replace F_a_heapKeys := F_a_heapKeys.other W (Or.inl ne_a_hk)
        replace F_a_added := F_a_added.other W (Or.inl ne_a_hk)
        replace F_a_size := F_a_size.other W (Or.inl ne_a_hk)
        replace O := O.wr W g_hk
        replace V_hk := V_hk.set W ⟨_, rfl, nx16⟩
        replace N := Fr.snoc X N g_hk
        refine Go.iload C X d5_134 (n := 136) rfl rfl ?_
        refine Go.istore C X d5_136 (n := 138) rfl (l' := #[.val (.ref a), .val (.double d), .second, .val (.double e1), .second, .val (.int i), .val (.int (1 : Int32)), .val (.int (0 : Int32)), .val (.int (0 : Int32))]) rfl ?_
        refine Go.goto C X d5_138 (n := 67) (by decide) (by decide) ?_
        refine Go.iload C X d5_67 (n := 69) rfl rfl ?_
        refine Go.if0_le C X d5_69 (n1 := 141) (n2 := 72) (by decide) (by decide) rfl (fun hc69 => ?_) (fun hc69 => ?_)
        · refine Go.aloadN C X d5_141 (n := 142) rfl rfl rfl ?_
          refine Go.getF C X eT (wd hw 17 rfl) Via.refl F_a_heap d5_142 (n := 145) rfl ?_
          clear X eT
          intro T X eT
          refine Go.iload C X d5_145 (n := 147) rfl rfl ?_
          refine Go.iload C X d5_147 (n := 149) rfl rfl ?_
          obtain ⟨vsy18, _, Vy18, hly18, -, -⟩ := V_ha.at (i := 0) (by decide)
          refine Go.iastoreL C X eT Vy18 (i := 0) rfl (by rw [hly18]; decide) d5_149 (n := 150) rfl ?_
          clear X eT
          intro T h X eT W V_new
          clear V_new Vy18
          replace E_a := E_a.wr W
          replace F_a_keys := F_a_keys.other W (Or.inl ne_a_ha)
          replace V_ka := V_ka.other W ne_ka_ha
          replace F_a_values := F_a_values.other W (Or.inl ne_a_ha)
          replace V_va := V_va.other W ne_va_ha
          replace F_a_items := F_a_items.other W (Or.inl ne_a_ha)
          replace V_ia := V_ia.other W ne_ia_ha
          replace F_a_heap := F_a_heap.other W (Or.inl ne_a_ha)
          replace F_a_heapKeys := F_a_heapKeys.other W (Or.inl ne_a_ha)
          replace V_hk := V_hk.other W (Ne.symm ne_ha_hk)
          replace F_a_added := F_a_added.other W (Or.inl ne_a_ha)
          replace F_a_size := F_a_size.other W (Or.inl ne_a_ha)
          replace O := O.wr W g_ha
          replace V_ha := V_ha.set W ⟨_, rfl⟩
          replace N := Fr.snoc X N g_ha
          refine Go.aloadN C X d5_150 (n := 151) rfl rfl rfl ?_
          refine Go.getF C X eT (wd hw 19 rfl) Via.refl F_a_heapKeys d5_151 (n := 154) rfl ?_
          clear X eT
          intro T X eT
          refine Go.iload C X d5_154 (n := 156) rfl rfl ?_
          refine Go.dloadN C X d5_156 (n := 157) rfl rfl ?_
          obtain ⟨vsy19, _, Vy19, hly19, -, -⟩ := V_hk.at (i := 0) (by decide)
          refine Go.dastoreL C X eT Vy19 (i := 0) rfl (by rw [hly19]; decide) d5_157 (n := 158) rfl ?_
          clear X eT
          intro T h X eT W V_new
          clear V_new Vy19
          replace E_a := E_a.wr W
          replace F_a_keys := F_a_keys.other W (Or.inl ne_a_hk)
          replace V_ka := V_ka.other W ne_ka_hk
          replace F_a_values := F_a_values.other W (Or.inl ne_a_hk)
          replace V_va := V_va.other W ne_va_hk
          replace F_a_items := F_a_items.other W (Or.inl ne_a_hk)
          replace V_ia := V_ia.other W ne_ia_hk
          replace F_a_heap := F_a_heap.other W (Or.inl ne_a_hk)
          replace V_ha := V_ha.other W ne_ha_hk
          replace F_a_heapKeys := F_a_heapKeys.other W (Or.inl ne_a_hk)
          replace F_a_added := F_a_added.other W (Or.inl ne_a_hk)
          replace F_a_size := F_a_size.other W (Or.inl ne_a_hk)
          replace O := O.wr W g_hk
          replace V_hk := V_hk.set W ⟨_, rfl, hd⟩
          replace N := Fr.snoc X N g_hk
          refine Go.iload C X d5_158 (n := 160) rfl rfl ?_
          refine Go.retI C X eT d5_160 (by decide) (by decide) ?_
          exact ⟨_, rfl, N, trivial, O, ⟨ka, va, ia, ha, hk, ⟨g_a, g_ka, g_va, g_ia, g_ha, g_hk⟩, ⟨ne_a_ka, ne_a_va, ne_a_ia, ne_a_ha, ne_a_hk, ne_ka_va, ne_ka_ia, ne_ka_ha, ne_ka_hk, ne_va_ia, ne_va_ha, ne_va_hk, ne_ia_ha, ne_ia_hk, ne_ha_hk⟩, E_a, F_a_keys, F_a_values, F_a_items, F_a_heap, F_a_heapKeys, F_a_added, F_a_size, V_ka, V_va, V_ia, V_ha, V_hk⟩⟩
        · exact absurd hc69 (by decide)
      · refine Go.goto C X d5_103 (n := 141) (by decide) (by decide) ?_
        refine Go.aloadN C X d5_141 (n := 142) rfl rfl rfl ?_
        refine Go.getF C X eT (wd hw 17 rfl) Via.refl F_a_heap d5_142 (n := 145) rfl ?_
        clear X eT
        intro T X eT
        refine Go.iload C X d5_145 (n := 147) rfl rfl ?_
        refine Go.iload C X d5_147 (n := 149) rfl rfl ?_
        obtain ⟨vsy20, _, Vy20, hly20, -, -⟩ := V_ha.at (i := 1) (by decide)
        refine Go.iastoreL C X eT Vy20 (i := 1) rfl (by rw [hly20]; decide) d5_149 (n := 150) rfl ?_
        clear X eT
        intro T h X eT W V_new
        clear V_new Vy20
        replace E_a := E_a.wr W
        replace F_a_keys := F_a_keys.other W (Or.inl ne_a_ha)
        replace V_ka := V_ka.other W ne_ka_ha
        replace F_a_values := F_a_values.other W (Or.inl ne_a_ha)
        replace V_va := V_va.other W ne_va_ha
        replace F_a_items := F_a_items.other W (Or.inl ne_a_ha)
        replace V_ia := V_ia.other W ne_ia_ha
        replace F_a_heap := F_a_heap.other W (Or.inl ne_a_ha)
        replace F_a_heapKeys := F_a_heapKeys.other W (Or.inl ne_a_ha)
        replace V_hk := V_hk.other W (Ne.symm ne_ha_hk)
        replace F_a_added := F_a_added.other W (Or.inl ne_a_ha)
        replace F_a_size := F_a_size.other W (Or.inl ne_a_ha)
        replace O := O.wr W g_ha
        replace V_ha := V_ha.set W ⟨_, rfl⟩
        replace N := Fr.snoc X N g_ha
        refine Go.aloadN C X d5_150 (n := 151) rfl rfl rfl ?_
        refine Go.getF C X eT (wd hw 19 rfl) Via.refl F_a_heapKeys d5_151 (n := 154) rfl ?_
        clear X eT
        intro T X eT
        refine Go.iload C X d5_154 (n := 156) rfl rfl ?_
        refine Go.dloadN C X d5_156 (n := 157) rfl rfl ?_
        obtain ⟨vsy21, _, Vy21, hly21, -, -⟩ := V_hk.at (i := 1) (by decide)
        refine Go.dastoreL C X eT Vy21 (i := 1) rfl (by rw [hly21]; decide) d5_157 (n := 158) rfl ?_
        clear X eT
        intro T h X eT W V_new
        clear V_new Vy21
        replace E_a := E_a.wr W
        replace F_a_keys := F_a_keys.other W (Or.inl ne_a_hk)
        replace V_ka := V_ka.other W ne_ka_hk
        replace F_a_values := F_a_values.other W (Or.inl ne_a_hk)
        replace V_va := V_va.other W ne_va_hk
        replace F_a_items := F_a_items.other W (Or.inl ne_a_hk)
        replace V_ia := V_ia.other W ne_ia_hk
        replace F_a_heap := F_a_heap.other W (Or.inl ne_a_hk)
        replace V_ha := V_ha.other W ne_ha_hk
        replace F_a_heapKeys := F_a_heapKeys.other W (Or.inl ne_a_hk)
        replace F_a_added := F_a_added.other W (Or.inl ne_a_hk)
        replace F_a_size := F_a_size.other W (Or.inl ne_a_hk)
        replace O := O.wr W g_hk
        replace V_hk := V_hk.set W ⟨_, rfl, hd⟩
        replace N := Fr.snoc X N g_hk
        refine Go.iload C X d5_158 (n := 160) rfl rfl ?_
        refine Go.retI C X eT d5_160 (by decide) (by decide) ?_
        exact ⟨_, rfl, N, trivial, O, ⟨ka, va, ia, ha, hk, ⟨g_a, g_ka, g_va, g_ia, g_ha, g_hk⟩, ⟨ne_a_ka, ne_a_va, ne_a_ia, ne_a_ha, ne_a_hk, ne_ka_va, ne_ka_ia, ne_ka_ha, ne_ka_hk, ne_va_ia, ne_va_ha, ne_va_hk, ne_ia_ha, ne_ia_hk, ne_ha_hk⟩, E_a, F_a_keys, F_a_values, F_a_items, F_a_heap, F_a_heapKeys, F_a_added, F_a_size, V_ka, V_va, V_ia, V_ha, V_hk⟩⟩
  · exact absurd hc9 (by decide)
set_option maxRecDepth 65536 in
set_option maxHeartbeats 40000000 in
theorem add2 (l : Launch) (Z : State) (a0 : Array Value) (hw : ∀ d ∈ tables_1, d.before a0 Z = true) (n0 : Nat) (h0 : Heap) (a : Addr) (d e1 : UInt64) (i : Int32) (hd : Jvm.Free.Fl.NoNaN64 d) (O : Old Z n0 h0) (Q : SQN Z n0 h0 a 2 2) :
    Ctr l Z (⟨"com/example/routes_to_timing/routestotiming/routing/SearchQueue", "add", "(DDI)I"⟩ : MethodName) prog_47_method_4_code 9 (some .int) ({ frames := 4, cells := 0, slots := 0, locals := 90 } : Room) #[(.ref a), (.double d), (.double e1), (.int i)] h0 (fun v h L => ∃ r : Int32, v = some (.int r) ∧ Fr n0 L ∧ True ∧ Old Z n0 h ∧ SQN Z n0 h a 3 3) := by
  refine Ctr.mk (plainFor_of_name pn_0) (ls := #[.val (.ref a), .val (.double d), .second, .val (.double e1), .second, .val (.int i), .unset, .unset, .unset]) (fun m => by first | (simp [entryFrame, mkF, argsToLocals, Value.category]; done) | rfl) ?_
  intro p e s m below meth c T C X eT hs0
  have N := Fr.nil n0
  show Go p e below _ (T.setTop (mkF m 0 #[.val (.ref a), .val (.double d), .second, .val (.double e1), .second, .val (.int i), .unset, .unset, .unset] []))
  obtain ⟨ka, va, ia, ha, hk, ⟨g_a, g_ka, g_va, g_ia, g_ha, g_hk⟩, ⟨ne_a_ka, ne_a_va, ne_a_ia, ne_a_ha, ne_a_hk, ne_ka_va, ne_ka_ia, ne_ka_ha, ne_ka_hk, ne_va_ia, ne_va_ha, ne_va_hk, ne_ia_ha, ne_ia_hk, ne_ha_hk⟩, E_a, F_a_keys, F_a_values, F_a_items, F_a_heap, F_a_heapKeys, F_a_added, F_a_size, V_ka, V_va, V_ia, V_ha, V_hk⟩ := Q
  refine Go.aloadN C X d5_0 (n := 1) rfl rfl rfl ?_
  refine Go.getF C X eT (wd hw 33 rfl) Via.refl F_a_added d5_1 (n := 4) rfl ?_
  clear X eT
  intro T X eT
  refine Go.aloadN C X d5_4 (n := 5) rfl rfl rfl ?_
  refine Go.getF C X eT (wd hw 10 rfl) Via.refl F_a_keys d5_5 (n := 8) rfl ?_
  clear X eT
  intro T X eT
  obtain ⟨vsu22, _, Vu22, hlu22, -, -⟩ := V_ka.at (i := 0) (by decide)
  refine Go.lengthL C X eT Vu22 (z := (1024 : Int32)) (by rw [hlu22]; rfl) d5_8 (n := 9) rfl ?_
  refine Go.icmp_ne C X d5_9 (n1 := 16) (n2 := 12) (by decide) (by decide) rfl (fun hc9 => ?_) (fun hc9 => ?_)
  · refine Go.aloadN C X d5_16 (n := 17) rfl rfl rfl ?_
    refine Go.dup C X d5_17 (n := 18) rfl rfl ?_
    refine Go.getF C X eT (wd hw 33 rfl) Via.refl F_a_added d5_18 (n := 21) rfl ?_
    clear X eT
    intro T X eT
    refine Go.dupX1 C X d5_21 (n := 22) rfl rfl rfl ?_
    refine Go.iconst C X d5_22 (n := 23) rfl (v := (1 : Int32)) rfl ?_
    refine Go.iadd C X d5_23 (n := 24) rfl ?_
    show Go p e below _ (T.setTop (mkF m 24 #[.val (.ref a), .val (.double d), .second, .val (.double e1), .second, .val (.int i), .unset, .unset, .unset] [(.int (3 : Int32)), (.ref a), (.int (2 : Int32))]))
    refine Go.putF C X eT (wd hw 33 rfl) Via.refl F_a_added E_a (Or.inl (wd hw 34 rfl)) (wd hw 1 rfl) (ty := .int) (by decide) rfl rfl d5_24 (n := 27) rfl ?_
    clear X eT
    intro T h X eT W
    replace E_a := E_a.wr W
    replace F_a_keys := F_a_keys.other W (Or.inr (slot_ne (Or.inl (wd hw 11 rfl)) (Or.inl (wd hw 34 rfl)) (by decide) (t := (.array .double)) (t' := .int) (by decide) (by decide)))
    replace V_ka := V_ka.other W (Ne.symm ne_a_ka)
    replace F_a_values := F_a_values.other W (Or.inr (slot_ne (Or.inl (wd hw 13 rfl)) (Or.inl (wd hw 34 rfl)) (by decide) (t := (.array .double)) (t' := .int) (by decide) (by decide)))
    replace V_va := V_va.other W (Ne.symm ne_a_va)
    replace F_a_items := F_a_items.other W (Or.inr (slot_ne (Or.inl (wd hw 16 rfl)) (Or.inl (wd hw 34 rfl)) (by decide) (t := (.array .int)) (t' := .int) (by decide) (by decide)))
    replace V_ia := V_ia.other W (Ne.symm ne_a_ia)
    replace F_a_heap := F_a_heap.other W (Or.inr (slot_ne (Or.inl (wd hw 18 rfl)) (Or.inl (wd hw 34 rfl)) (by decide) (t := (.array .int)) (t' := .int) (by decide) (by decide)))
    replace V_ha := V_ha.other W (Ne.symm ne_a_ha)
    replace F_a_heapKeys := F_a_heapKeys.other W (Or.inr (slot_ne (Or.inl (wd hw 20 rfl)) (Or.inl (wd hw 34 rfl)) (by decide) (t := (.array .double)) (t' := .int) (by decide) (by decide)))
    replace V_hk := V_hk.other W (Ne.symm ne_a_hk)
    replace F_a_added := F_a_added.same W
    replace F_a_size := F_a_size.other W (Or.inr (slot_ne (Or.inl (wd hw 27 rfl)) (Or.inl (wd hw 34 rfl)) (by decide) (t := .int) (t' := .int) (by decide) (by decide)))
    replace O := O.wr W g_a
    replace N := Fr.snoc X N g_a
    refine Go.istore C X d5_27 (n := 29) rfl (l' := #[.val (.ref a), .val (.double d), .second, .val (.double e1), .second, .val (.int i), .val (.int (2 : Int32)), .unset, .unset]) rfl ?_
    refine Go.aloadN C X d5_29 (n := 30) rfl rfl rfl ?_
    refine Go.getF C X eT (wd hw 10 rfl) Via.refl F_a_keys d5_30 (n := 33) rfl ?_
    clear X eT
    intro T X eT
    refine Go.iload C X d5_33 (n := 35) rfl rfl ?_
    refine Go.dloadN C X d5_35 (n := 36) rfl rfl ?_
    obtain ⟨vsy23, _, Vy23, hly23, -, -⟩ := V_ka.at (i := 2) (by decide)
    refine Go.dastoreL C X eT Vy23 (i := 2) rfl (by rw [hly23]; decide) d5_36 (n := 37) rfl ?_
    clear X eT
    intro T h X eT W V_new
    clear V_new Vy23
    replace E_a := E_a.wr W
    replace F_a_keys := F_a_keys.other W (Or.inl ne_a_ka)
    replace F_a_values := F_a_values.other W (Or.inl ne_a_ka)
    replace V_va := V_va.other W (Ne.symm ne_ka_va)
    replace F_a_items := F_a_items.other W (Or.inl ne_a_ka)
    replace V_ia := V_ia.other W (Ne.symm ne_ka_ia)
    replace F_a_heap := F_a_heap.other W (Or.inl ne_a_ka)
    replace V_ha := V_ha.other W (Ne.symm ne_ka_ha)
    replace F_a_heapKeys := F_a_heapKeys.other W (Or.inl ne_a_ka)
    replace V_hk := V_hk.other W (Ne.symm ne_ka_hk)
    replace F_a_added := F_a_added.other W (Or.inl ne_a_ka)
    replace F_a_size := F_a_size.other W (Or.inl ne_a_ka)
    replace O := O.wr W g_ka
    replace V_ka := V_ka.set W ⟨_, rfl⟩
    replace N := Fr.snoc X N g_ka
    refine Go.aloadN C X d5_37 (n := 38) rfl rfl rfl ?_
    refine Go.getF C X eT (wd hw 12 rfl) Via.refl F_a_values d5_38 (n := 41) rfl ?_
    clear X eT
    intro T X eT
    refine Go.iload C X d5_41 (n := 43) rfl rfl ?_
    refine Go.dloadN C X d5_43 (n := 44) rfl rfl ?_
    obtain ⟨vsy24, _, Vy24, hly24, -, -⟩ := V_va.at (i := 2) (by decide)
    refine Go.dastoreL C X eT Vy24 (i := 2) rfl (by rw [hly24]; decide) d5_44 (n := 45) rfl ?_
    clear X eT
    intro T h X eT W V_new
    clear V_new Vy24
    replace E_a := E_a.wr W
    replace F_a_keys := F_a_keys.other W (Or.inl ne_a_va)
    replace V_ka := V_ka.other W ne_ka_va
    replace F_a_values := F_a_values.other W (Or.inl ne_a_va)
    replace F_a_items := F_a_items.other W (Or.inl ne_a_va)
    replace V_ia := V_ia.other W (Ne.symm ne_va_ia)
    replace F_a_heap := F_a_heap.other W (Or.inl ne_a_va)
    replace V_ha := V_ha.other W (Ne.symm ne_va_ha)
    replace F_a_heapKeys := F_a_heapKeys.other W (Or.inl ne_a_va)
    replace V_hk := V_hk.other W (Ne.symm ne_va_hk)
    replace F_a_added := F_a_added.other W (Or.inl ne_a_va)
    replace F_a_size := F_a_size.other W (Or.inl ne_a_va)
    replace O := O.wr W g_va
    replace V_va := V_va.set W ⟨_, rfl⟩
    replace N := Fr.snoc X N g_va
    refine Go.aloadN C X d5_45 (n := 46) rfl rfl rfl ?_
    refine Go.getF C X eT (wd hw 15 rfl) Via.refl F_a_items d5_46 (n := 49) rfl ?_
    clear X eT
    intro T X eT
    refine Go.iload C X d5_49 (n := 51) rfl rfl ?_
    refine Go.iload C X d5_51 (n := 53) rfl rfl ?_
    obtain ⟨vsy25, _, Vy25, hly25, -, -⟩ := V_ia.at (i := 2) (by decide)
    refine Go.iastoreL C X eT Vy25 (i := 2) rfl (by rw [hly25]; decide) d5_53 (n := 54) rfl ?_
    clear X eT
    intro T h X eT W V_new
    clear V_new Vy25
    replace E_a := E_a.wr W
    replace F_a_keys := F_a_keys.other W (Or.inl ne_a_ia)
    replace V_ka := V_ka.other W ne_ka_ia
    replace F_a_values := F_a_values.other W (Or.inl ne_a_ia)
    replace V_va := V_va.other W ne_va_ia
    replace F_a_items := F_a_items.other W (Or.inl ne_a_ia)
    replace F_a_heap := F_a_heap.other W (Or.inl ne_a_ia)
    replace V_ha := V_ha.other W (Ne.symm ne_ia_ha)
    replace F_a_heapKeys := F_a_heapKeys.other W (Or.inl ne_a_ia)
    replace V_hk := V_hk.other W (Ne.symm ne_ia_hk)
    replace F_a_added := F_a_added.other W (Or.inl ne_a_ia)
    replace F_a_size := F_a_size.other W (Or.inl ne_a_ia)
    replace O := O.wr W g_ia
    replace V_ia := V_ia.set W ⟨_, rfl⟩
    replace N := Fr.snoc X N g_ia
    refine Go.aloadN C X d5_54 (n := 55) rfl rfl rfl ?_
    refine Go.dup C X d5_55 (n := 56) rfl rfl ?_
    refine Go.getF C X eT (wd hw 26 rfl) Via.refl F_a_size d5_56 (n := 59) rfl ?_
    clear X eT
    intro T X eT
    refine Go.dupX1 C X d5_59 (n := 60) rfl rfl rfl ?_
    refine Go.iconst C X d5_60 (n := 61) rfl (v := (1 : Int32)) rfl ?_
    refine Go.iadd C X d5_61 (n := 62) rfl ?_
    show Go p e below _ (T.setTop (mkF m 62 #[.val (.ref a), .val (.double d), .second, .val (.double e1), .second, .val (.int i), .val (.int (2 : Int32)), .unset, .unset] [(.int (3 : Int32)), (.ref a), (.int (2 : Int32))]))
    refine Go.putF C X eT (wd hw 26 rfl) Via.refl F_a_size E_a (Or.inl (wd hw 27 rfl)) (wd hw 1 rfl) (ty := .int) (by decide) rfl rfl d5_62 (n := 65) rfl ?_
    clear X eT
    intro T h X eT W
    replace E_a := E_a.wr W
    replace F_a_keys := F_a_keys.other W (Or.inr (slot_ne (Or.inl (wd hw 11 rfl)) (Or.inl (wd hw 27 rfl)) (by decide) (t := (.array .double)) (t' := .int) (by decide) (by decide)))
    replace V_ka := V_ka.other W (Ne.symm ne_a_ka)
    replace F_a_values := F_a_values.other W (Or.inr (slot_ne (Or.inl (wd hw 13 rfl)) (Or.inl (wd hw 27 rfl)) (by decide) (t := (.array .double)) (t' := .int) (by decide) (by decide)))
    replace V_va := V_va.other W (Ne.symm ne_a_va)
    replace F_a_items := F_a_items.other W (Or.inr (slot_ne (Or.inl (wd hw 16 rfl)) (Or.inl (wd hw 27 rfl)) (by decide) (t := (.array .int)) (t' := .int) (by decide) (by decide)))
    replace V_ia := V_ia.other W (Ne.symm ne_a_ia)
    replace F_a_heap := F_a_heap.other W (Or.inr (slot_ne (Or.inl (wd hw 18 rfl)) (Or.inl (wd hw 27 rfl)) (by decide) (t := (.array .int)) (t' := .int) (by decide) (by decide)))
    replace V_ha := V_ha.other W (Ne.symm ne_a_ha)
    replace F_a_heapKeys := F_a_heapKeys.other W (Or.inr (slot_ne (Or.inl (wd hw 20 rfl)) (Or.inl (wd hw 27 rfl)) (by decide) (t := (.array .double)) (t' := .int) (by decide) (by decide)))
    replace V_hk := V_hk.other W (Ne.symm ne_a_hk)
    replace F_a_added := F_a_added.other W (Or.inr (slot_ne (Or.inl (wd hw 34 rfl)) (Or.inl (wd hw 27 rfl)) (by decide) (t := .int) (t' := .int) (by decide) (by decide)))
    replace F_a_size := F_a_size.same W
    replace O := O.wr W g_a
    replace N := Fr.snoc X N g_a
    refine Go.istore C X d5_65 (n := 67) rfl (l' := #[.val (.ref a), .val (.double d), .second, .val (.double e1), .second, .val (.int i), .val (.int (2 : Int32)), .val (.int (2 : Int32)), .unset]) rfl ?_
    refine Go.iload C X d5_67 (n := 69) rfl rfl ?_
    refine Go.if0_le C X d5_69 (n1 := 141) (n2 := 72) (by decide) (by decide) rfl (fun hc69 => ?_) (fun hc69 => ?_)
    · exact absurd hc69 (by decide)
    · refine Go.iload C X d5_72 (n := 74) rfl rfl ?_
      refine Go.iconst C X d5_74 (n := 75) rfl (v := (1 : Int32)) rfl ?_
      refine Go.isub C X d5_75 (n := 76) rfl ?_
      show Go p e below _ (T.setTop (mkF m 76 #[.val (.ref a), .val (.double d), .second, .val (.double e1), .second, .val (.int i), .val (.int (2 : Int32)), .val (.int (2 : Int32)), .unset] [(.int (1 : Int32))]))
      refine Go.iconst C X d5_76 (n := 77) rfl (v := (1 : Int32)) rfl ?_
      refine Go.iushr C X d5_77 (n := 78) rfl ?_
      show Go p e below _ (T.setTop (mkF m 78 #[.val (.ref a), .val (.double d), .second, .val (.double e1), .second, .val (.int i), .val (.int (2 : Int32)), .val (.int (2 : Int32)), .unset] [(.int (0 : Int32))]))
      refine Go.istore C X d5_78 (n := 80) rfl (l' := #[.val (.ref a), .val (.double d), .second, .val (.double e1), .second, .val (.int i), .val (.int (2 : Int32)), .val (.int (2 : Int32)), .val (.int (0 : Int32))]) rfl ?_
      refine Go.dloadN C X d5_80 (n := 81) rfl rfl ?_
      refine Go.iload C X d5_81 (n := 83) rfl rfl ?_
      refine Go.aloadN C X d5_83 (n := 84) rfl rfl rfl ?_
      refine Go.getF C X eT (wd hw 19 rfl) Via.refl F_a_heapKeys d5_84 (n := 87) rfl ?_
      clear X eT
      intro T X eT
      refine Go.iload C X d5_87 (n := 89) rfl rfl ?_
      obtain ⟨vsx26, _, Vx26, hlx26, hvx26, x26, rfl, nx26⟩ := V_hk.at (i := 0) (by decide)
      refine Go.daloadL C X eT Vx26 (i := 0) rfl hvx26 d5_89 (n := 90) rfl ?_
      refine Go.aloadN C X d5_90 (n := 91) rfl rfl rfl ?_
      refine Go.getF C X eT (wd hw 17 rfl) Via.refl F_a_heap d5_91 (n := 94) rfl ?_
      clear X eT
      intro T X eT
      refine Go.iload C X d5_94 (n := 96) rfl rfl ?_
      obtain ⟨vsx27, _, Vx27, hlx27, hvx27, x27, rfl⟩ := V_ha.at (i := 0) (by decide)
      refine Go.ialoadL C X eT Vx27 (i := 0) rfl hvx27 d5_96 (n := 97) rfl ?_
      refine Go.stat C X eT (argsL := [(.double d), (.int (2 : Int32)), (.double x26), (.int x27)]) (rest := []) (rm7 l Z a0 hw n0 _ d x26 (2 : Int32) x27 hd nx26) (wd hw 45 rfl) (wd hw 46 rfl) (wd hw 2 rfl) (wd hw 47 rfl) (by decide) (lenOf pd_3 rfl) rfl d5_97 (n := 100) rfl rfl (by decide) (W := 0) rfl (by decide) (by decide) (by decide) ?_
      clear X eT
      intro T h' v L X eT hQ
      obtain ⟨r28, rfl, rfl, hE⟩ := hQ
      replace hE := hE.symm
      subst hE
      replace N := N.app (Fr.nil n0)
      show Go p e below _ (T.setTop (mkF m 100 #[.val (.ref a), .val (.double d), .second, .val (.double e1), .second, .val (.int i), .val (.int (2 : Int32)), .val (.int (2 : Int32)), .val (.int (0 : Int32))] [(.int r28)]))
      refine Go.if0_ne C X d5_100 (n1 := 106) (n2 := 103) (by decide) (by decide) rfl (fun hc100 => ?_) (fun hc100 => ?_)
      · refine Go.aloadN C X d5_106 (n := 107) rfl rfl rfl ?_
        refine Go.getF C X eT (wd hw 17 rfl) Via.refl F_a_heap d5_107 (n := 110) rfl ?_
        clear X eT
        intro T X eT
        refine Go.iload C X d5_110 (n := 112) rfl rfl ?_
        refine Go.aloadN C X d5_112 (n := 113) rfl rfl rfl ?_
        refine Go.getF C X eT (wd hw 17 rfl) Via.refl F_a_heap d5_113 (n := 116) rfl ?_
        clear X eT
        intro T X eT
        refine Go.iload C X d5_116 (n := 118) rfl rfl ?_
        obtain ⟨vsx29, _, Vx29, hlx29, hvx29, x29, rfl⟩ := V_ha.at (i := 0) (by decide)
        refine Go.ialoadL C X eT Vx29 (i := 0) rfl hvx29 d5_118 (n := 119) rfl ?_
        obtain ⟨vsy30, _, Vy30, hly30, -, -⟩ := V_ha.at (i := 2) (by decide)
        refine Go.iastoreL C X eT Vy30 (i := 2) rfl (by rw [hly30]; decide) d5_119 (n := 120) rfl ?_
        clear X eT
        intro T h X eT W V_new
        clear V_new Vy30
        replace E_a := E_a.wr W
        replace F_a_keys := F_a_keys.other W (Or.inl ne_a_ha)
        replace V_ka := V_ka.other W ne_ka_ha
        replace F_a_values := F_a_values.other W (Or.inl ne_a_ha)
        replace V_va := V_va.other W ne_va_ha
        replace F_a_items := F_a_items.other W (Or.inl ne_a_ha)
        replace V_ia := V_ia.other W ne_ia_ha
        replace F_a_heap := F_a_heap.other W (Or.inl ne_a_ha)
        replace F_a_heapKeys := F_a_heapKeys.other W (Or.inl ne_a_ha)
        replace V_hk := V_hk.other W (Ne.symm ne_ha_hk)
        replace F_a_added := F_a_added.other W (Or.inl ne_a_ha)
        replace F_a_size := F_a_size.other W (Or.inl ne_a_ha)
        replace O := O.wr W g_ha
        replace V_ha := V_ha.set W ⟨_, rfl⟩
        replace N := Fr.snoc X N g_ha
        refine Go.aloadN C X d5_120 (n := 121) rfl rfl rfl ?_
        refine Go.getF C X eT (wd hw 19 rfl) Via.refl F_a_heapKeys d5_121 (n := 124) rfl ?_
        clear X eT
        intro T X eT
        refine Go.iload C X d5_124 (n := 126) rfl rfl ?_
        refine Go.aloadN C X d5_126 (n := 127) rfl rfl rfl ?_
        refine Go.getF C X eT (wd hw 19 rfl) Via.refl F_a_heapKeys d5_127 (n := 130) rfl ?_
        clear X eT
        intro T X eT
        refine Go.iload C X d5_130 (n := 132) rfl rfl ?_
        obtain ⟨vsx31, _, Vx31, hlx31, hvx31, x31, rfl, nx31⟩ := V_hk.at (i := 0) (by decide)
        refine Go.daloadL C X eT Vx31 (i := 0) rfl hvx31 d5_132 (n := 133) rfl ?_
        obtain ⟨vsy32, _, Vy32, hly32, -, -⟩ := V_hk.at (i := 2) (by decide)
        refine Go.dastoreL C X eT Vy32 (i := 2) rfl (by rw [hly32]; decide) d5_133 (n := 134) rfl ?_
        clear X eT
        intro T h X eT W V_new
        clear V_new Vy32
        replace E_a := E_a.wr W
        replace F_a_keys := F_a_keys.other W (Or.inl ne_a_hk)
        replace V_ka := V_ka.other W ne_ka_hk
        replace F_a_values := F_a_values.other W (Or.inl ne_a_hk)
        replace V_va := V_va.other W ne_va_hk
        replace F_a_items := F_a_items.other W (Or.inl ne_a_hk)
        replace V_ia := V_ia.other W ne_ia_hk
        replace F_a_heap := F_a_heap.other W (Or.inl ne_a_hk)
        replace V_ha := V_ha.other W ne_ha_hk
        replace F_a_heapKeys := F_a_heapKeys.other W (Or.inl ne_a_hk)
        replace F_a_added := F_a_added.other W (Or.inl ne_a_hk)
        replace F_a_size := F_a_size.other W (Or.inl ne_a_hk)
        replace O := O.wr W g_hk
        replace V_hk := V_hk.set W ⟨_, rfl, nx31⟩
        replace N := Fr.snoc X N g_hk
        refine Go.iload C X d5_134 (n := 136) rfl rfl ?_
        refine Go.istore C X d5_136 (n := 138) rfl (l' := #[.val (.ref a), .val (.double d), .second, .val (.double e1), .second, .val (.int i), .val (.int (2 : Int32)), .val (.int (0 : Int32)), .val (.int (0 : Int32))]) rfl ?_
        refine Go.goto C X d5_138 (n := 67) (by decide) (by decide) ?_
        refine Go.iload C X d5_67 (n := 69) rfl rfl ?_
        refine Go.if0_le C X d5_69 (n1 := 141) (n2 := 72) (by decide) (by decide) rfl (fun hc69 => ?_) (fun hc69 => ?_)
        · refine Go.aloadN C X d5_141 (n := 142) rfl rfl rfl ?_
          refine Go.getF C X eT (wd hw 17 rfl) Via.refl F_a_heap d5_142 (n := 145) rfl ?_
          clear X eT
          intro T X eT
          refine Go.iload C X d5_145 (n := 147) rfl rfl ?_
          refine Go.iload C X d5_147 (n := 149) rfl rfl ?_
          obtain ⟨vsy33, _, Vy33, hly33, -, -⟩ := V_ha.at (i := 0) (by decide)
          refine Go.iastoreL C X eT Vy33 (i := 0) rfl (by rw [hly33]; decide) d5_149 (n := 150) rfl ?_
          clear X eT
          intro T h X eT W V_new
          clear V_new Vy33
          replace E_a := E_a.wr W
          replace F_a_keys := F_a_keys.other W (Or.inl ne_a_ha)
          replace V_ka := V_ka.other W ne_ka_ha
          replace F_a_values := F_a_values.other W (Or.inl ne_a_ha)
          replace V_va := V_va.other W ne_va_ha
          replace F_a_items := F_a_items.other W (Or.inl ne_a_ha)
          replace V_ia := V_ia.other W ne_ia_ha
          replace F_a_heap := F_a_heap.other W (Or.inl ne_a_ha)
          replace F_a_heapKeys := F_a_heapKeys.other W (Or.inl ne_a_ha)
          replace V_hk := V_hk.other W (Ne.symm ne_ha_hk)
          replace F_a_added := F_a_added.other W (Or.inl ne_a_ha)
          replace F_a_size := F_a_size.other W (Or.inl ne_a_ha)
          replace O := O.wr W g_ha
          replace V_ha := V_ha.set W ⟨_, rfl⟩
          replace N := Fr.snoc X N g_ha
          refine Go.aloadN C X d5_150 (n := 151) rfl rfl rfl ?_
          refine Go.getF C X eT (wd hw 19 rfl) Via.refl F_a_heapKeys d5_151 (n := 154) rfl ?_
          clear X eT
          intro T X eT
          refine Go.iload C X d5_154 (n := 156) rfl rfl ?_
          refine Go.dloadN C X d5_156 (n := 157) rfl rfl ?_
          obtain ⟨vsy34, _, Vy34, hly34, -, -⟩ := V_hk.at (i := 0) (by decide)
          refine Go.dastoreL C X eT Vy34 (i := 0) rfl (by rw [hly34]; decide) d5_157 (n := 158) rfl ?_
          clear X eT
          intro T h X eT W V_new
          clear V_new Vy34
          replace E_a := E_a.wr W
          replace F_a_keys := F_a_keys.other W (Or.inl ne_a_hk)
          replace V_ka := V_ka.other W ne_ka_hk
          replace F_a_values := F_a_values.other W (Or.inl ne_a_hk)
          replace V_va := V_va.other W ne_va_hk
          replace F_a_items := F_a_items.other W (Or.inl ne_a_hk)
          replace V_ia := V_ia.other W ne_ia_hk
          replace F_a_heap := F_a_heap.other W (Or.inl ne_a_hk)
          replace V_ha := V_ha.other W ne_ha_hk
          replace F_a_heapKeys := F_a_heapKeys.other W (Or.inl ne_a_hk)
          replace F_a_added := F_a_added.other W (Or.inl ne_a_hk)
          replace F_a_size := F_a_size.other W (Or.inl ne_a_hk)
          replace O := O.wr W g_hk
          replace V_hk := V_hk.set W ⟨_, rfl, hd⟩
          replace N := Fr.snoc X N g_hk
          refine Go.iload C X d5_158 (n := 160) rfl rfl ?_
          refine Go.retI C X eT d5_160 (by decide) (by decide) ?_
          exact ⟨_, rfl, N, trivial, O, ⟨ka, va, ia, ha, hk, ⟨g_a, g_ka, g_va, g_ia, g_ha, g_hk⟩, ⟨ne_a_ka, ne_a_va, ne_a_ia, ne_a_ha, ne_a_hk, ne_ka_va, ne_ka_ia, ne_ka_ha, ne_ka_hk, ne_va_ia, ne_va_ha, ne_va_hk, ne_ia_ha, ne_ia_hk, ne_ha_hk⟩, E_a, F_a_keys, F_a_values, F_a_items, F_a_heap, F_a_heapKeys, F_a_added, F_a_size, V_ka, V_va, V_ia, V_ha, V_hk⟩⟩
        · exact absurd hc69 (by decide)
      · refine Go.goto C X d5_103 (n := 141) (by decide) (by decide) ?_
        refine Go.aloadN C X d5_141 (n := 142) rfl rfl rfl ?_
        refine Go.getF C X eT (wd hw 17 rfl) Via.refl F_a_heap d5_142 (n := 145) rfl ?_
        clear X eT
        intro T X eT
        refine Go.iload C X d5_145 (n := 147) rfl rfl ?_
        refine Go.iload C X d5_147 (n := 149) rfl rfl ?_
        obtain ⟨vsy35, _, Vy35, hly35, -, -⟩ := V_ha.at (i := 2) (by decide)
        refine Go.iastoreL C X eT Vy35 (i := 2) rfl (by rw [hly35]; decide) d5_149 (n := 150) rfl ?_
        clear X eT
        intro T h X eT W V_new
        clear V_new Vy35
        replace E_a := E_a.wr W
        replace F_a_keys := F_a_keys.other W (Or.inl ne_a_ha)
        replace V_ka := V_ka.other W ne_ka_ha
        replace F_a_values := F_a_values.other W (Or.inl ne_a_ha)
        replace V_va := V_va.other W ne_va_ha
        replace F_a_items := F_a_items.other W (Or.inl ne_a_ha)
        replace V_ia := V_ia.other W ne_ia_ha
        replace F_a_heap := F_a_heap.other W (Or.inl ne_a_ha)
        replace F_a_heapKeys := F_a_heapKeys.other W (Or.inl ne_a_ha)
        replace V_hk := V_hk.other W (Ne.symm ne_ha_hk)
        replace F_a_added := F_a_added.other W (Or.inl ne_a_ha)
        replace F_a_size := F_a_size.other W (Or.inl ne_a_ha)
        replace O := O.wr W g_ha
        replace V_ha := V_ha.set W ⟨_, rfl⟩
        replace N := Fr.snoc X N g_ha
        refine Go.aloadN C X d5_150 (n := 151) rfl rfl rfl ?_
        refine Go.getF C X eT (wd hw 19 rfl) Via.refl F_a_heapKeys d5_151 (n := 154) rfl ?_
        clear X eT
        intro T X eT
        refine Go.iload C X d5_154 (n := 156) rfl rfl ?_
        refine Go.dloadN C X d5_156 (n := 157) rfl rfl ?_
        obtain ⟨vsy36, _, Vy36, hly36, -, -⟩ := V_hk.at (i := 2) (by decide)
        refine Go.dastoreL C X eT Vy36 (i := 2) rfl (by rw [hly36]; decide) d5_157 (n := 158) rfl ?_
        clear X eT
        intro T h X eT W V_new
        clear V_new Vy36
        replace E_a := E_a.wr W
        replace F_a_keys := F_a_keys.other W (Or.inl ne_a_hk)
        replace V_ka := V_ka.other W ne_ka_hk
        replace F_a_values := F_a_values.other W (Or.inl ne_a_hk)
        replace V_va := V_va.other W ne_va_hk
        replace F_a_items := F_a_items.other W (Or.inl ne_a_hk)
        replace V_ia := V_ia.other W ne_ia_hk
        replace F_a_heap := F_a_heap.other W (Or.inl ne_a_hk)
        replace V_ha := V_ha.other W ne_ha_hk
        replace F_a_heapKeys := F_a_heapKeys.other W (Or.inl ne_a_hk)
        replace F_a_added := F_a_added.other W (Or.inl ne_a_hk)
        replace F_a_size := F_a_size.other W (Or.inl ne_a_hk)
        replace O := O.wr W g_hk
        replace V_hk := V_hk.set W ⟨_, rfl, hd⟩
        replace N := Fr.snoc X N g_hk
        refine Go.iload C X d5_158 (n := 160) rfl rfl ?_
        refine Go.retI C X eT d5_160 (by decide) (by decide) ?_
        exact ⟨_, rfl, N, trivial, O, ⟨ka, va, ia, ha, hk, ⟨g_a, g_ka, g_va, g_ia, g_ha, g_hk⟩, ⟨ne_a_ka, ne_a_va, ne_a_ia, ne_a_ha, ne_a_hk, ne_ka_va, ne_ka_ia, ne_ka_ha, ne_ka_hk, ne_va_ia, ne_va_ha, ne_va_hk, ne_ia_ha, ne_ia_hk, ne_ha_hk⟩, E_a, F_a_keys, F_a_values, F_a_items, F_a_heap, F_a_heapKeys, F_a_added, F_a_size, V_ka, V_va, V_ia, V_ha, V_hk⟩⟩
  · exact absurd hc9 (by decide)
theorem d6_0 : decode prog_47_method_5_code 0 = .ok (.aload_n 0, 1) := by decide +kernel
theorem d6_1 : decode prog_47_method_5_code 1 = .ok (.getfield 30, 3) := by decide +kernel
theorem d6_4 : decode prog_47_method_5_code 4 = .ok (.ifCond .ne 13, 3) := by decide +kernel
theorem d6_7 : decode prog_47_method_5_code 7 = .ok (.new 40, 3) := by decide +kernel
theorem d6_10 : decode prog_47_method_5_code 10 = .ok (.dup, 1) := by decide +kernel
theorem d6_11 : decode prog_47_method_5_code 11 = .ok (.ldc 42, 2) := by decide +kernel
theorem d6_13 : decode prog_47_method_5_code 13 = .ok (.invokespecial 44, 3) := by decide +kernel
theorem d6_16 : decode prog_47_method_5_code 16 = .ok (.athrow, 1) := by decide +kernel
theorem d6_17 : decode prog_47_method_5_code 17 = .ok (.aload_n 0, 1) := by decide +kernel
theorem d6_18 : decode prog_47_method_5_code 18 = .ok (.getfield 20, 3) := by decide +kernel
theorem d6_21 : decode prog_47_method_5_code 21 = .ok (.iconst 0, 1) := by decide +kernel
theorem d6_22 : decode prog_47_method_5_code 22 = .ok (.iaload, 1) := by decide +kernel
theorem d6_23 : decode prog_47_method_5_code 23 = .ok (.istore_n 1, 1) := by decide +kernel
theorem d6_24 : decode prog_47_method_5_code 24 = .ok (.aload_n 0, 1) := by decide +kernel
theorem d6_25 : decode prog_47_method_5_code 25 = .ok (.getfield 20, 3) := by decide +kernel
theorem d6_28 : decode prog_47_method_5_code 28 = .ok (.aload_n 0, 1) := by decide +kernel
theorem d6_29 : decode prog_47_method_5_code 29 = .ok (.dup, 1) := by decide +kernel
theorem d6_30 : decode prog_47_method_5_code 30 = .ok (.getfield 30, 3) := by decide +kernel
theorem d6_33 : decode prog_47_method_5_code 33 = .ok (.iconst 1, 1) := by decide +kernel
theorem d6_34 : decode prog_47_method_5_code 34 = .ok (.isub, 1) := by decide +kernel
theorem d6_35 : decode prog_47_method_5_code 35 = .ok (.dup_x1, 1) := by decide +kernel
theorem d6_36 : decode prog_47_method_5_code 36 = .ok (.putfield 30, 3) := by decide +kernel
theorem d6_39 : decode prog_47_method_5_code 39 = .ok (.iaload, 1) := by decide +kernel
theorem d6_40 : decode prog_47_method_5_code 40 = .ok (.istore_n 2, 1) := by decide +kernel
theorem d6_41 : decode prog_47_method_5_code 41 = .ok (.aload_n 0, 1) := by decide +kernel
theorem d6_42 : decode prog_47_method_5_code 42 = .ok (.getfield 23, 3) := by decide +kernel
theorem d6_45 : decode prog_47_method_5_code 45 = .ok (.aload_n 0, 1) := by decide +kernel
theorem d6_46 : decode prog_47_method_5_code 46 = .ok (.getfield 30, 3) := by decide +kernel
theorem d6_49 : decode prog_47_method_5_code 49 = .ok (.daload, 1) := by decide +kernel
theorem d6_50 : decode prog_47_method_5_code 50 = .ok (.dstore_n 3, 1) := by decide +kernel
theorem d6_51 : decode prog_47_method_5_code 51 = .ok (.iconst 0, 1) := by decide +kernel
theorem d6_52 : decode prog_47_method_5_code 52 = .ok (.istore 5, 2) := by decide +kernel
theorem d6_54 : decode prog_47_method_5_code 54 = .ok (.aload_n 0, 1) := by decide +kernel
theorem d6_55 : decode prog_47_method_5_code 55 = .ok (.getfield 30, 3) := by decide +kernel
theorem d6_58 : decode prog_47_method_5_code 58 = .ok (.iconst 1, 1) := by decide +kernel
theorem d6_59 : decode prog_47_method_5_code 59 = .ok (.iushr, 1) := by decide +kernel
theorem d6_60 : decode prog_47_method_5_code 60 = .ok (.istore 6, 2) := by decide +kernel
theorem d6_62 : decode prog_47_method_5_code 62 = .ok (.iload 5, 2) := by decide +kernel
theorem d6_64 : decode prog_47_method_5_code 64 = .ok (.iload 6, 2) := by decide +kernel
theorem d6_66 : decode prog_47_method_5_code 66 = .ok (.if_icmp .ge 124, 3) := by decide +kernel
theorem d6_69 : decode prog_47_method_5_code 69 = .ok (.iconst 2, 1) := by decide +kernel
theorem d6_70 : decode prog_47_method_5_code 70 = .ok (.iload 5, 2) := by decide +kernel
theorem d6_72 : decode prog_47_method_5_code 72 = .ok (.imul, 1) := by decide +kernel
theorem d6_73 : decode prog_47_method_5_code 73 = .ok (.iconst 1, 1) := by decide +kernel
theorem d6_74 : decode prog_47_method_5_code 74 = .ok (.iadd, 1) := by decide +kernel
theorem d6_75 : decode prog_47_method_5_code 75 = .ok (.istore 7, 2) := by decide +kernel
theorem d6_77 : decode prog_47_method_5_code 77 = .ok (.iload 7, 2) := by decide +kernel
theorem d6_79 : decode prog_47_method_5_code 79 = .ok (.iconst 1, 1) := by decide +kernel
theorem d6_80 : decode prog_47_method_5_code 80 = .ok (.iadd, 1) := by decide +kernel
theorem d6_81 : decode prog_47_method_5_code 81 = .ok (.istore 8, 2) := by decide +kernel
theorem d6_83 : decode prog_47_method_5_code 83 = .ok (.iload 8, 2) := by decide +kernel
theorem d6_85 : decode prog_47_method_5_code 85 = .ok (.aload_n 0, 1) := by decide +kernel
theorem d6_86 : decode prog_47_method_5_code 86 = .ok (.getfield 30, 3) := by decide +kernel
theorem d6_89 : decode prog_47_method_5_code 89 = .ok (.if_icmp .ge 41, 3) := by decide +kernel
theorem d6_92 : decode prog_47_method_5_code 92 = .ok (.aload_n 0, 1) := by decide +kernel
theorem d6_93 : decode prog_47_method_5_code 93 = .ok (.getfield 23, 3) := by decide +kernel
theorem d6_96 : decode prog_47_method_5_code 96 = .ok (.iload 8, 2) := by decide +kernel
theorem d6_98 : decode prog_47_method_5_code 98 = .ok (.daload, 1) := by decide +kernel
theorem d6_99 : decode prog_47_method_5_code 99 = .ok (.aload_n 0, 1) := by decide +kernel
theorem d6_100 : decode prog_47_method_5_code 100 = .ok (.getfield 20, 3) := by decide +kernel
theorem d6_103 : decode prog_47_method_5_code 103 = .ok (.iload 8, 2) := by decide +kernel
theorem d6_105 : decode prog_47_method_5_code 105 = .ok (.iaload, 1) := by decide +kernel
theorem d6_106 : decode prog_47_method_5_code 106 = .ok (.aload_n 0, 1) := by decide +kernel
theorem d6_107 : decode prog_47_method_5_code 107 = .ok (.getfield 23, 3) := by decide +kernel
theorem d6_110 : decode prog_47_method_5_code 110 = .ok (.iload 7, 2) := by decide +kernel
theorem d6_112 : decode prog_47_method_5_code 112 = .ok (.daload, 1) := by decide +kernel
theorem d6_113 : decode prog_47_method_5_code 113 = .ok (.aload_n 0, 1) := by decide +kernel
theorem d6_114 : decode prog_47_method_5_code 114 = .ok (.getfield 20, 3) := by decide +kernel
theorem d6_117 : decode prog_47_method_5_code 117 = .ok (.iload 7, 2) := by decide +kernel
theorem d6_119 : decode prog_47_method_5_code 119 = .ok (.iaload, 1) := by decide +kernel
theorem d6_120 : decode prog_47_method_5_code 120 = .ok (.invokestatic 36, 3) := by decide +kernel
theorem d6_123 : decode prog_47_method_5_code 123 = .ok (.ifCond .eq 7, 3) := by decide +kernel
theorem d6_126 : decode prog_47_method_5_code 126 = .ok (.iload 8, 2) := by decide +kernel
theorem d6_128 : decode prog_47_method_5_code 128 = .ok (.istore 7, 2) := by decide +kernel
theorem d6_130 : decode prog_47_method_5_code 130 = .ok (.aload_n 0, 1) := by decide +kernel
theorem d6_131 : decode prog_47_method_5_code 131 = .ok (.getfield 23, 3) := by decide +kernel
theorem d6_134 : decode prog_47_method_5_code 134 = .ok (.iload 7, 2) := by decide +kernel
theorem d6_136 : decode prog_47_method_5_code 136 = .ok (.daload, 1) := by decide +kernel
theorem d6_137 : decode prog_47_method_5_code 137 = .ok (.aload_n 0, 1) := by decide +kernel
theorem d6_138 : decode prog_47_method_5_code 138 = .ok (.getfield 20, 3) := by decide +kernel
theorem d6_141 : decode prog_47_method_5_code 141 = .ok (.iload 7, 2) := by decide +kernel
theorem d6_143 : decode prog_47_method_5_code 143 = .ok (.iaload, 1) := by decide +kernel
theorem d6_144 : decode prog_47_method_5_code 144 = .ok (.dload_n 3, 1) := by decide +kernel
theorem d6_145 : decode prog_47_method_5_code 145 = .ok (.iload_n 2, 1) := by decide +kernel
theorem d6_146 : decode prog_47_method_5_code 146 = .ok (.invokestatic 36, 3) := by decide +kernel
theorem d6_149 : decode prog_47_method_5_code 149 = .ok (.ifCond .ne 6, 3) := by decide +kernel
theorem d6_152 : decode prog_47_method_5_code 152 = .ok (.goto 38, 3) := by decide +kernel
theorem d6_155 : decode prog_47_method_5_code 155 = .ok (.aload_n 0, 1) := by decide +kernel
theorem d6_156 : decode prog_47_method_5_code 156 = .ok (.getfield 20, 3) := by decide +kernel
theorem d6_159 : decode prog_47_method_5_code 159 = .ok (.iload 5, 2) := by decide +kernel
theorem d6_161 : decode prog_47_method_5_code 161 = .ok (.aload_n 0, 1) := by decide +kernel
theorem d6_162 : decode prog_47_method_5_code 162 = .ok (.getfield 20, 3) := by decide +kernel
theorem d6_165 : decode prog_47_method_5_code 165 = .ok (.iload 7, 2) := by decide +kernel
theorem d6_167 : decode prog_47_method_5_code 167 = .ok (.iaload, 1) := by decide +kernel
theorem d6_168 : decode prog_47_method_5_code 168 = .ok (.iastore, 1) := by decide +kernel
theorem d6_169 : decode prog_47_method_5_code 169 = .ok (.aload_n 0, 1) := by decide +kernel
theorem d6_170 : decode prog_47_method_5_code 170 = .ok (.getfield 23, 3) := by decide +kernel
theorem d6_173 : decode prog_47_method_5_code 173 = .ok (.iload 5, 2) := by decide +kernel
theorem d6_175 : decode prog_47_method_5_code 175 = .ok (.aload_n 0, 1) := by decide +kernel
theorem d6_176 : decode prog_47_method_5_code 176 = .ok (.getfield 23, 3) := by decide +kernel
theorem d6_179 : decode prog_47_method_5_code 179 = .ok (.iload 7, 2) := by decide +kernel
theorem d6_181 : decode prog_47_method_5_code 181 = .ok (.daload, 1) := by decide +kernel
theorem d6_182 : decode prog_47_method_5_code 182 = .ok (.dastore, 1) := by decide +kernel
theorem d6_183 : decode prog_47_method_5_code 183 = .ok (.iload 7, 2) := by decide +kernel
theorem d6_185 : decode prog_47_method_5_code 185 = .ok (.istore 5, 2) := by decide +kernel
theorem d6_187 : decode prog_47_method_5_code 187 = .ok (.goto (-125), 3) := by decide +kernel
theorem d6_190 : decode prog_47_method_5_code 190 = .ok (.aload_n 0, 1) := by decide +kernel
theorem d6_191 : decode prog_47_method_5_code 191 = .ok (.getfield 20, 3) := by decide +kernel
theorem d6_194 : decode prog_47_method_5_code 194 = .ok (.iload 5, 2) := by decide +kernel
theorem d6_196 : decode prog_47_method_5_code 196 = .ok (.iload_n 2, 1) := by decide +kernel
theorem d6_197 : decode prog_47_method_5_code 197 = .ok (.iastore, 1) := by decide +kernel
theorem d6_198 : decode prog_47_method_5_code 198 = .ok (.aload_n 0, 1) := by decide +kernel
theorem d6_199 : decode prog_47_method_5_code 199 = .ok (.getfield 23, 3) := by decide +kernel
theorem d6_202 : decode prog_47_method_5_code 202 = .ok (.iload 5, 2) := by decide +kernel
theorem d6_204 : decode prog_47_method_5_code 204 = .ok (.dload_n 3, 1) := by decide +kernel
theorem d6_205 : decode prog_47_method_5_code 205 = .ok (.dastore, 1) := by decide +kernel
theorem d6_206 : decode prog_47_method_5_code 206 = .ok (.iload_n 1, 1) := by decide +kernel
theorem d6_207 : decode prog_47_method_5_code 207 = .ok (.ireturn, 1) := by decide +kernel
set_option maxRecDepth 65536 in
set_option maxHeartbeats 40000000 in
theorem poll1 (l : Launch) (Z : State) (a0 : Array Value) (hw : ∀ d ∈ tables_1, d.before a0 Z = true) (n0 : Nat) (h0 : Heap) (a : Addr) (k1 : Int32) (O : Old Z n0 h0) (Q : SQN Z n0 h0 a k1 1) :
    Ctr l Z (⟨"com/example/routes_to_timing/routestotiming/routing/SearchQueue", "poll", "()I"⟩ : MethodName) prog_47_method_5_code 9 (some .int) ({ frames := 0, cells := 0, slots := 0, locals := 0 } : Room) #[(.ref a)] h0 (fun v h L => ∃ r : Int32, v = some (.int r) ∧ Fr n0 L ∧ True ∧ Old Z n0 h ∧ SQN Z n0 h a k1 0) := by
  refine Ctr.mk (plainFor_of_name pn_0) (ls := #[.val (.ref a), .unset, .unset, .unset, .unset, .unset, .unset, .unset, .unset]) (fun m => by first | (simp [entryFrame, mkF, argsToLocals, Value.category]; done) | rfl) ?_
  intro p e s m below meth c T C X eT hs0
  have N := Fr.nil n0
  show Go p e below _ (T.setTop (mkF m 0 #[.val (.ref a), .unset, .unset, .unset, .unset, .unset, .unset, .unset, .unset] []))
  obtain ⟨ka, va, ia, ha, hk, ⟨g_a, g_ka, g_va, g_ia, g_ha, g_hk⟩, ⟨ne_a_ka, ne_a_va, ne_a_ia, ne_a_ha, ne_a_hk, ne_ka_va, ne_ka_ia, ne_ka_ha, ne_ka_hk, ne_va_ia, ne_va_ha, ne_va_hk, ne_ia_ha, ne_ia_hk, ne_ha_hk⟩, E_a, F_a_keys, F_a_values, F_a_items, F_a_heap, F_a_heapKeys, F_a_added, F_a_size, V_ka, V_va, V_ia, V_ha, V_hk⟩ := Q
  refine Go.aloadN C X d6_0 (n := 1) rfl rfl rfl ?_
  refine Go.getF C X eT (wd hw 26 rfl) Via.refl F_a_size d6_1 (n := 4) rfl ?_
  clear X eT
  intro T X eT
  refine Go.if0_ne C X d6_4 (n1 := 17) (n2 := 7) (by decide) (by decide) rfl (fun hc4 => ?_) (fun hc4 => ?_)
  · refine Go.aloadN C X d6_17 (n := 18) rfl rfl rfl ?_
    refine Go.getF C X eT (wd hw 17 rfl) Via.refl F_a_heap d6_18 (n := 21) rfl ?_
    clear X eT
    intro T X eT
    refine Go.iconst C X d6_21 (n := 22) rfl (v := (0 : Int32)) rfl ?_
    obtain ⟨vsx37, _, Vx37, hlx37, hvx37, x37, rfl⟩ := V_ha.at (i := 0) (by decide)
    refine Go.ialoadL C X eT Vx37 (i := 0) rfl hvx37 d6_22 (n := 23) rfl ?_
    refine Go.istoreN C X d6_23 (n := 24) rfl (l' := #[.val (.ref a), .val (.int x37), .unset, .unset, .unset, .unset, .unset, .unset, .unset]) rfl ?_
    refine Go.aloadN C X d6_24 (n := 25) rfl rfl rfl ?_
    refine Go.getF C X eT (wd hw 17 rfl) Via.refl F_a_heap d6_25 (n := 28) rfl ?_
    clear X eT
    intro T X eT
    refine Go.aloadN C X d6_28 (n := 29) rfl rfl rfl ?_
    refine Go.dup C X d6_29 (n := 30) rfl rfl ?_
    refine Go.getF C X eT (wd hw 26 rfl) Via.refl F_a_size d6_30 (n := 33) rfl ?_
    clear X eT
    intro T X eT
    refine Go.iconst C X d6_33 (n := 34) rfl (v := (1 : Int32)) rfl ?_
    refine Go.isub C X d6_34 (n := 35) rfl ?_
    show Go p e below _ (T.setTop (mkF m 35 #[.val (.ref a), .val (.int x37), .unset, .unset, .unset, .unset, .unset, .unset, .unset] [(.int (0 : Int32)), (.ref a), (.ref ha)]))
    refine Go.dupX1 C X d6_35 (n := 36) rfl rfl rfl ?_
    refine Go.putF C X eT (wd hw 26 rfl) Via.refl F_a_size E_a (Or.inl (wd hw 27 rfl)) (wd hw 1 rfl) (ty := .int) (by decide) rfl rfl d6_36 (n := 39) rfl ?_
    clear X eT
    intro T h X eT W
    replace E_a := E_a.wr W
    replace F_a_keys := F_a_keys.other W (Or.inr (slot_ne (Or.inl (wd hw 11 rfl)) (Or.inl (wd hw 27 rfl)) (by decide) (t := (.array .double)) (t' := .int) (by decide) (by decide)))
    replace V_ka := V_ka.other W (Ne.symm ne_a_ka)
    replace F_a_values := F_a_values.other W (Or.inr (slot_ne (Or.inl (wd hw 13 rfl)) (Or.inl (wd hw 27 rfl)) (by decide) (t := (.array .double)) (t' := .int) (by decide) (by decide)))
    replace V_va := V_va.other W (Ne.symm ne_a_va)
    replace F_a_items := F_a_items.other W (Or.inr (slot_ne (Or.inl (wd hw 16 rfl)) (Or.inl (wd hw 27 rfl)) (by decide) (t := (.array .int)) (t' := .int) (by decide) (by decide)))
    replace V_ia := V_ia.other W (Ne.symm ne_a_ia)
    replace F_a_heap := F_a_heap.other W (Or.inr (slot_ne (Or.inl (wd hw 18 rfl)) (Or.inl (wd hw 27 rfl)) (by decide) (t := (.array .int)) (t' := .int) (by decide) (by decide)))
    replace V_ha := V_ha.other W (Ne.symm ne_a_ha)
    replace F_a_heapKeys := F_a_heapKeys.other W (Or.inr (slot_ne (Or.inl (wd hw 20 rfl)) (Or.inl (wd hw 27 rfl)) (by decide) (t := (.array .double)) (t' := .int) (by decide) (by decide)))
    replace V_hk := V_hk.other W (Ne.symm ne_a_hk)
    replace F_a_added := F_a_added.other W (Or.inr (slot_ne (Or.inl (wd hw 34 rfl)) (Or.inl (wd hw 27 rfl)) (by decide) (t := .int) (t' := .int) (by decide) (by decide)))
    replace F_a_size := F_a_size.same W
    replace O := O.wr W g_a
    replace N := Fr.snoc X N g_a
    obtain ⟨vsx38, _, Vx38, hlx38, hvx38, x38, rfl⟩ := V_ha.at (i := 0) (by decide)
    refine Go.ialoadL C X eT Vx38 (i := 0) rfl hvx38 d6_39 (n := 40) rfl ?_
    refine Go.istoreN C X d6_40 (n := 41) rfl (l' := #[.val (.ref a), .val (.int x37), .val (.int x38), .unset, .unset, .unset, .unset, .unset, .unset]) rfl ?_
    refine Go.aloadN C X d6_41 (n := 42) rfl rfl rfl ?_
    refine Go.getF C X eT (wd hw 19 rfl) Via.refl F_a_heapKeys d6_42 (n := 45) rfl ?_
    clear X eT
    intro T X eT
    refine Go.aloadN C X d6_45 (n := 46) rfl rfl rfl ?_
    refine Go.getF C X eT (wd hw 26 rfl) Via.refl F_a_size d6_46 (n := 49) rfl ?_
    clear X eT
    intro T X eT
    obtain ⟨vsx39, _, Vx39, hlx39, hvx39, x39, rfl, nx39⟩ := V_hk.at (i := 0) (by decide)
    refine Go.daloadL C X eT Vx39 (i := 0) rfl hvx39 d6_49 (n := 50) rfl ?_
    refine Go.dstoreN C X d6_50 (n := 51) rfl (l' := #[.val (.ref a), .val (.int x37), .val (.int x38), .val (.double x39), .second, .unset, .unset, .unset, .unset]) rfl ?_
    refine Go.iconst C X d6_51 (n := 52) rfl (v := (0 : Int32)) rfl ?_
    refine Go.istore C X d6_52 (n := 54) rfl (l' := #[.val (.ref a), .val (.int x37), .val (.int x38), .val (.double x39), .second, .val (.int (0 : Int32)), .unset, .unset, .unset]) rfl ?_
    refine Go.aloadN C X d6_54 (n := 55) rfl rfl rfl ?_
    refine Go.getF C X eT (wd hw 26 rfl) Via.refl F_a_size d6_55 (n := 58) rfl ?_
    clear X eT
    intro T X eT
    refine Go.iconst C X d6_58 (n := 59) rfl (v := (1 : Int32)) rfl ?_
    refine Go.iushr C X d6_59 (n := 60) rfl ?_
    show Go p e below _ (T.setTop (mkF m 60 #[.val (.ref a), .val (.int x37), .val (.int x38), .val (.double x39), .second, .val (.int (0 : Int32)), .unset, .unset, .unset] [(.int (0 : Int32))]))
    refine Go.istore C X d6_60 (n := 62) rfl (l' := #[.val (.ref a), .val (.int x37), .val (.int x38), .val (.double x39), .second, .val (.int (0 : Int32)), .val (.int (0 : Int32)), .unset, .unset]) rfl ?_
    refine Go.iload C X d6_62 (n := 64) rfl rfl ?_
    refine Go.iload C X d6_64 (n := 66) rfl rfl ?_
    refine Go.icmp_ge C X d6_66 (n1 := 190) (n2 := 69) (by decide) (by decide) rfl (fun hc66 => ?_) (fun hc66 => ?_)
    · refine Go.aloadN C X d6_190 (n := 191) rfl rfl rfl ?_
      refine Go.getF C X eT (wd hw 17 rfl) Via.refl F_a_heap d6_191 (n := 194) rfl ?_
      clear X eT
      intro T X eT
      refine Go.iload C X d6_194 (n := 196) rfl rfl ?_
      refine Go.iloadN C X d6_196 (n := 197) rfl rfl ?_
      obtain ⟨vsy40, _, Vy40, hly40, -, -⟩ := V_ha.at (i := 0) (by decide)
      refine Go.iastoreL C X eT Vy40 (i := 0) rfl (by rw [hly40]; decide) d6_197 (n := 198) rfl ?_
      clear X eT
      intro T h X eT W V_new
      clear V_new Vy40
      replace E_a := E_a.wr W
      replace F_a_keys := F_a_keys.other W (Or.inl ne_a_ha)
      replace V_ka := V_ka.other W ne_ka_ha
      replace F_a_values := F_a_values.other W (Or.inl ne_a_ha)
      replace V_va := V_va.other W ne_va_ha
      replace F_a_items := F_a_items.other W (Or.inl ne_a_ha)
      replace V_ia := V_ia.other W ne_ia_ha
      replace F_a_heap := F_a_heap.other W (Or.inl ne_a_ha)
      replace F_a_heapKeys := F_a_heapKeys.other W (Or.inl ne_a_ha)
      replace V_hk := V_hk.other W (Ne.symm ne_ha_hk)
      replace F_a_added := F_a_added.other W (Or.inl ne_a_ha)
      replace F_a_size := F_a_size.other W (Or.inl ne_a_ha)
      replace O := O.wr W g_ha
      replace V_ha := V_ha.set W ⟨_, rfl⟩
      replace N := Fr.snoc X N g_ha
      refine Go.aloadN C X d6_198 (n := 199) rfl rfl rfl ?_
      refine Go.getF C X eT (wd hw 19 rfl) Via.refl F_a_heapKeys d6_199 (n := 202) rfl ?_
      clear X eT
      intro T X eT
      refine Go.iload C X d6_202 (n := 204) rfl rfl ?_
      refine Go.dloadN C X d6_204 (n := 205) rfl rfl ?_
      obtain ⟨vsy41, _, Vy41, hly41, -, -⟩ := V_hk.at (i := 0) (by decide)
      refine Go.dastoreL C X eT Vy41 (i := 0) rfl (by rw [hly41]; decide) d6_205 (n := 206) rfl ?_
      clear X eT
      intro T h X eT W V_new
      clear V_new Vy41
      replace E_a := E_a.wr W
      replace F_a_keys := F_a_keys.other W (Or.inl ne_a_hk)
      replace V_ka := V_ka.other W ne_ka_hk
      replace F_a_values := F_a_values.other W (Or.inl ne_a_hk)
      replace V_va := V_va.other W ne_va_hk
      replace F_a_items := F_a_items.other W (Or.inl ne_a_hk)
      replace V_ia := V_ia.other W ne_ia_hk
      replace F_a_heap := F_a_heap.other W (Or.inl ne_a_hk)
      replace V_ha := V_ha.other W ne_ha_hk
      replace F_a_heapKeys := F_a_heapKeys.other W (Or.inl ne_a_hk)
      replace F_a_added := F_a_added.other W (Or.inl ne_a_hk)
      replace F_a_size := F_a_size.other W (Or.inl ne_a_hk)
      replace O := O.wr W g_hk
      replace V_hk := V_hk.set W ⟨_, rfl, nx39⟩
      replace N := Fr.snoc X N g_hk
      refine Go.iloadN C X d6_206 (n := 207) rfl rfl ?_
      refine Go.retI C X eT d6_207 (by decide) (by decide) ?_
      exact ⟨_, rfl, N, trivial, O, ⟨ka, va, ia, ha, hk, ⟨g_a, g_ka, g_va, g_ia, g_ha, g_hk⟩, ⟨ne_a_ka, ne_a_va, ne_a_ia, ne_a_ha, ne_a_hk, ne_ka_va, ne_ka_ia, ne_ka_ha, ne_ka_hk, ne_va_ia, ne_va_ha, ne_va_hk, ne_ia_ha, ne_ia_hk, ne_ha_hk⟩, E_a, F_a_keys, F_a_values, F_a_items, F_a_heap, F_a_heapKeys, F_a_added, F_a_size, V_ka, V_va, V_ia, V_ha, V_hk⟩⟩
    · exact absurd hc66 (by decide)
  · exact absurd hc4 (by decide)
set_option maxRecDepth 65536 in
set_option maxHeartbeats 40000000 in
theorem poll2 (l : Launch) (Z : State) (a0 : Array Value) (hw : ∀ d ∈ tables_1, d.before a0 Z = true) (n0 : Nat) (h0 : Heap) (a : Addr) (k1 : Int32) (O : Old Z n0 h0) (Q : SQN Z n0 h0 a k1 2) :
    Ctr l Z (⟨"com/example/routes_to_timing/routestotiming/routing/SearchQueue", "poll", "()I"⟩ : MethodName) prog_47_method_5_code 9 (some .int) ({ frames := 0, cells := 0, slots := 0, locals := 0 } : Room) #[(.ref a)] h0 (fun v h L => ∃ r : Int32, v = some (.int r) ∧ Fr n0 L ∧ True ∧ Old Z n0 h ∧ SQN Z n0 h a k1 1) := by
  refine Ctr.mk (plainFor_of_name pn_0) (ls := #[.val (.ref a), .unset, .unset, .unset, .unset, .unset, .unset, .unset, .unset]) (fun m => by first | (simp [entryFrame, mkF, argsToLocals, Value.category]; done) | rfl) ?_
  intro p e s m below meth c T C X eT hs0
  have N := Fr.nil n0
  show Go p e below _ (T.setTop (mkF m 0 #[.val (.ref a), .unset, .unset, .unset, .unset, .unset, .unset, .unset, .unset] []))
  obtain ⟨ka, va, ia, ha, hk, ⟨g_a, g_ka, g_va, g_ia, g_ha, g_hk⟩, ⟨ne_a_ka, ne_a_va, ne_a_ia, ne_a_ha, ne_a_hk, ne_ka_va, ne_ka_ia, ne_ka_ha, ne_ka_hk, ne_va_ia, ne_va_ha, ne_va_hk, ne_ia_ha, ne_ia_hk, ne_ha_hk⟩, E_a, F_a_keys, F_a_values, F_a_items, F_a_heap, F_a_heapKeys, F_a_added, F_a_size, V_ka, V_va, V_ia, V_ha, V_hk⟩ := Q
  refine Go.aloadN C X d6_0 (n := 1) rfl rfl rfl ?_
  refine Go.getF C X eT (wd hw 26 rfl) Via.refl F_a_size d6_1 (n := 4) rfl ?_
  clear X eT
  intro T X eT
  refine Go.if0_ne C X d6_4 (n1 := 17) (n2 := 7) (by decide) (by decide) rfl (fun hc4 => ?_) (fun hc4 => ?_)
  · refine Go.aloadN C X d6_17 (n := 18) rfl rfl rfl ?_
    refine Go.getF C X eT (wd hw 17 rfl) Via.refl F_a_heap d6_18 (n := 21) rfl ?_
    clear X eT
    intro T X eT
    refine Go.iconst C X d6_21 (n := 22) rfl (v := (0 : Int32)) rfl ?_
    obtain ⟨vsx42, _, Vx42, hlx42, hvx42, x42, rfl⟩ := V_ha.at (i := 0) (by decide)
    refine Go.ialoadL C X eT Vx42 (i := 0) rfl hvx42 d6_22 (n := 23) rfl ?_
    refine Go.istoreN C X d6_23 (n := 24) rfl (l' := #[.val (.ref a), .val (.int x42), .unset, .unset, .unset, .unset, .unset, .unset, .unset]) rfl ?_
    refine Go.aloadN C X d6_24 (n := 25) rfl rfl rfl ?_
    refine Go.getF C X eT (wd hw 17 rfl) Via.refl F_a_heap d6_25 (n := 28) rfl ?_
    clear X eT
    intro T X eT
    refine Go.aloadN C X d6_28 (n := 29) rfl rfl rfl ?_
    refine Go.dup C X d6_29 (n := 30) rfl rfl ?_
    refine Go.getF C X eT (wd hw 26 rfl) Via.refl F_a_size d6_30 (n := 33) rfl ?_
    clear X eT
    intro T X eT
    refine Go.iconst C X d6_33 (n := 34) rfl (v := (1 : Int32)) rfl ?_
    refine Go.isub C X d6_34 (n := 35) rfl ?_
    show Go p e below _ (T.setTop (mkF m 35 #[.val (.ref a), .val (.int x42), .unset, .unset, .unset, .unset, .unset, .unset, .unset] [(.int (1 : Int32)), (.ref a), (.ref ha)]))
    refine Go.dupX1 C X d6_35 (n := 36) rfl rfl rfl ?_
    refine Go.putF C X eT (wd hw 26 rfl) Via.refl F_a_size E_a (Or.inl (wd hw 27 rfl)) (wd hw 1 rfl) (ty := .int) (by decide) rfl rfl d6_36 (n := 39) rfl ?_
    clear X eT
    intro T h X eT W
    replace E_a := E_a.wr W
    replace F_a_keys := F_a_keys.other W (Or.inr (slot_ne (Or.inl (wd hw 11 rfl)) (Or.inl (wd hw 27 rfl)) (by decide) (t := (.array .double)) (t' := .int) (by decide) (by decide)))
    replace V_ka := V_ka.other W (Ne.symm ne_a_ka)
    replace F_a_values := F_a_values.other W (Or.inr (slot_ne (Or.inl (wd hw 13 rfl)) (Or.inl (wd hw 27 rfl)) (by decide) (t := (.array .double)) (t' := .int) (by decide) (by decide)))
    replace V_va := V_va.other W (Ne.symm ne_a_va)
    replace F_a_items := F_a_items.other W (Or.inr (slot_ne (Or.inl (wd hw 16 rfl)) (Or.inl (wd hw 27 rfl)) (by decide) (t := (.array .int)) (t' := .int) (by decide) (by decide)))
    replace V_ia := V_ia.other W (Ne.symm ne_a_ia)
    replace F_a_heap := F_a_heap.other W (Or.inr (slot_ne (Or.inl (wd hw 18 rfl)) (Or.inl (wd hw 27 rfl)) (by decide) (t := (.array .int)) (t' := .int) (by decide) (by decide)))
    replace V_ha := V_ha.other W (Ne.symm ne_a_ha)
    replace F_a_heapKeys := F_a_heapKeys.other W (Or.inr (slot_ne (Or.inl (wd hw 20 rfl)) (Or.inl (wd hw 27 rfl)) (by decide) (t := (.array .double)) (t' := .int) (by decide) (by decide)))
    replace V_hk := V_hk.other W (Ne.symm ne_a_hk)
    replace F_a_added := F_a_added.other W (Or.inr (slot_ne (Or.inl (wd hw 34 rfl)) (Or.inl (wd hw 27 rfl)) (by decide) (t := .int) (t' := .int) (by decide) (by decide)))
    replace F_a_size := F_a_size.same W
    replace O := O.wr W g_a
    replace N := Fr.snoc X N g_a
    obtain ⟨vsx43, _, Vx43, hlx43, hvx43, x43, rfl⟩ := V_ha.at (i := 1) (by decide)
    refine Go.ialoadL C X eT Vx43 (i := 1) rfl hvx43 d6_39 (n := 40) rfl ?_
    refine Go.istoreN C X d6_40 (n := 41) rfl (l' := #[.val (.ref a), .val (.int x42), .val (.int x43), .unset, .unset, .unset, .unset, .unset, .unset]) rfl ?_
    refine Go.aloadN C X d6_41 (n := 42) rfl rfl rfl ?_
    refine Go.getF C X eT (wd hw 19 rfl) Via.refl F_a_heapKeys d6_42 (n := 45) rfl ?_
    clear X eT
    intro T X eT
    refine Go.aloadN C X d6_45 (n := 46) rfl rfl rfl ?_
    refine Go.getF C X eT (wd hw 26 rfl) Via.refl F_a_size d6_46 (n := 49) rfl ?_
    clear X eT
    intro T X eT
    obtain ⟨vsx44, _, Vx44, hlx44, hvx44, x44, rfl, nx44⟩ := V_hk.at (i := 1) (by decide)
    refine Go.daloadL C X eT Vx44 (i := 1) rfl hvx44 d6_49 (n := 50) rfl ?_
    refine Go.dstoreN C X d6_50 (n := 51) rfl (l' := #[.val (.ref a), .val (.int x42), .val (.int x43), .val (.double x44), .second, .unset, .unset, .unset, .unset]) rfl ?_
    refine Go.iconst C X d6_51 (n := 52) rfl (v := (0 : Int32)) rfl ?_
    refine Go.istore C X d6_52 (n := 54) rfl (l' := #[.val (.ref a), .val (.int x42), .val (.int x43), .val (.double x44), .second, .val (.int (0 : Int32)), .unset, .unset, .unset]) rfl ?_
    refine Go.aloadN C X d6_54 (n := 55) rfl rfl rfl ?_
    refine Go.getF C X eT (wd hw 26 rfl) Via.refl F_a_size d6_55 (n := 58) rfl ?_
    clear X eT
    intro T X eT
    refine Go.iconst C X d6_58 (n := 59) rfl (v := (1 : Int32)) rfl ?_
    refine Go.iushr C X d6_59 (n := 60) rfl ?_
    show Go p e below _ (T.setTop (mkF m 60 #[.val (.ref a), .val (.int x42), .val (.int x43), .val (.double x44), .second, .val (.int (0 : Int32)), .unset, .unset, .unset] [(.int (0 : Int32))]))
    refine Go.istore C X d6_60 (n := 62) rfl (l' := #[.val (.ref a), .val (.int x42), .val (.int x43), .val (.double x44), .second, .val (.int (0 : Int32)), .val (.int (0 : Int32)), .unset, .unset]) rfl ?_
    refine Go.iload C X d6_62 (n := 64) rfl rfl ?_
    refine Go.iload C X d6_64 (n := 66) rfl rfl ?_
    refine Go.icmp_ge C X d6_66 (n1 := 190) (n2 := 69) (by decide) (by decide) rfl (fun hc66 => ?_) (fun hc66 => ?_)
    · refine Go.aloadN C X d6_190 (n := 191) rfl rfl rfl ?_
      refine Go.getF C X eT (wd hw 17 rfl) Via.refl F_a_heap d6_191 (n := 194) rfl ?_
      clear X eT
      intro T X eT
      refine Go.iload C X d6_194 (n := 196) rfl rfl ?_
      refine Go.iloadN C X d6_196 (n := 197) rfl rfl ?_
      obtain ⟨vsy45, _, Vy45, hly45, -, -⟩ := V_ha.at (i := 0) (by decide)
      refine Go.iastoreL C X eT Vy45 (i := 0) rfl (by rw [hly45]; decide) d6_197 (n := 198) rfl ?_
      clear X eT
      intro T h X eT W V_new
      clear V_new Vy45
      replace E_a := E_a.wr W
      replace F_a_keys := F_a_keys.other W (Or.inl ne_a_ha)
      replace V_ka := V_ka.other W ne_ka_ha
      replace F_a_values := F_a_values.other W (Or.inl ne_a_ha)
      replace V_va := V_va.other W ne_va_ha
      replace F_a_items := F_a_items.other W (Or.inl ne_a_ha)
      replace V_ia := V_ia.other W ne_ia_ha
      replace F_a_heap := F_a_heap.other W (Or.inl ne_a_ha)
      replace F_a_heapKeys := F_a_heapKeys.other W (Or.inl ne_a_ha)
      replace V_hk := V_hk.other W (Ne.symm ne_ha_hk)
      replace F_a_added := F_a_added.other W (Or.inl ne_a_ha)
      replace F_a_size := F_a_size.other W (Or.inl ne_a_ha)
      replace O := O.wr W g_ha
      replace V_ha := V_ha.set W ⟨_, rfl⟩
      replace N := Fr.snoc X N g_ha
      refine Go.aloadN C X d6_198 (n := 199) rfl rfl rfl ?_
      refine Go.getF C X eT (wd hw 19 rfl) Via.refl F_a_heapKeys d6_199 (n := 202) rfl ?_
      clear X eT
      intro T X eT
      refine Go.iload C X d6_202 (n := 204) rfl rfl ?_
      refine Go.dloadN C X d6_204 (n := 205) rfl rfl ?_
      obtain ⟨vsy46, _, Vy46, hly46, -, -⟩ := V_hk.at (i := 0) (by decide)
      refine Go.dastoreL C X eT Vy46 (i := 0) rfl (by rw [hly46]; decide) d6_205 (n := 206) rfl ?_
      clear X eT
      intro T h X eT W V_new
      clear V_new Vy46
      replace E_a := E_a.wr W
      replace F_a_keys := F_a_keys.other W (Or.inl ne_a_hk)
      replace V_ka := V_ka.other W ne_ka_hk
      replace F_a_values := F_a_values.other W (Or.inl ne_a_hk)
      replace V_va := V_va.other W ne_va_hk
      replace F_a_items := F_a_items.other W (Or.inl ne_a_hk)
      replace V_ia := V_ia.other W ne_ia_hk
      replace F_a_heap := F_a_heap.other W (Or.inl ne_a_hk)
      replace V_ha := V_ha.other W ne_ha_hk
      replace F_a_heapKeys := F_a_heapKeys.other W (Or.inl ne_a_hk)
      replace F_a_added := F_a_added.other W (Or.inl ne_a_hk)
      replace F_a_size := F_a_size.other W (Or.inl ne_a_hk)
      replace O := O.wr W g_hk
      replace V_hk := V_hk.set W ⟨_, rfl, nx44⟩
      replace N := Fr.snoc X N g_hk
      refine Go.iloadN C X d6_206 (n := 207) rfl rfl ?_
      refine Go.retI C X eT d6_207 (by decide) (by decide) ?_
      exact ⟨_, rfl, N, trivial, O, ⟨ka, va, ia, ha, hk, ⟨g_a, g_ka, g_va, g_ia, g_ha, g_hk⟩, ⟨ne_a_ka, ne_a_va, ne_a_ia, ne_a_ha, ne_a_hk, ne_ka_va, ne_ka_ia, ne_ka_ha, ne_ka_hk, ne_va_ia, ne_va_ha, ne_va_hk, ne_ia_ha, ne_ia_hk, ne_ha_hk⟩, E_a, F_a_keys, F_a_values, F_a_items, F_a_heap, F_a_heapKeys, F_a_added, F_a_size, V_ka, V_va, V_ia, V_ha, V_hk⟩⟩
    · exact absurd hc66 (by decide)
  · exact absurd hc4 (by decide)
set_option maxRecDepth 65536 in
set_option maxHeartbeats 40000000 in
theorem poll3 (l : Launch) (Z : State) (a0 : Array Value) (hw : ∀ d ∈ tables_1, d.before a0 Z = true) (n0 : Nat) (h0 : Heap) (a : Addr) (k1 : Int32) (O : Old Z n0 h0) (Q : SQN Z n0 h0 a k1 3) :
    Ctr l Z (⟨"com/example/routes_to_timing/routestotiming/routing/SearchQueue", "poll", "()I"⟩ : MethodName) prog_47_method_5_code 9 (some .int) ({ frames := 4, cells := 0, slots := 0, locals := 90 } : Room) #[(.ref a)] h0 (fun v h L => ∃ r : Int32, v = some (.int r) ∧ Fr n0 L ∧ True ∧ Old Z n0 h ∧ SQN Z n0 h a k1 2) := by
  refine Ctr.mk (plainFor_of_name pn_0) (ls := #[.val (.ref a), .unset, .unset, .unset, .unset, .unset, .unset, .unset, .unset]) (fun m => by first | (simp [entryFrame, mkF, argsToLocals, Value.category]; done) | rfl) ?_
  intro p e s m below meth c T C X eT hs0
  have N := Fr.nil n0
  show Go p e below _ (T.setTop (mkF m 0 #[.val (.ref a), .unset, .unset, .unset, .unset, .unset, .unset, .unset, .unset] []))
  obtain ⟨ka, va, ia, ha, hk, ⟨g_a, g_ka, g_va, g_ia, g_ha, g_hk⟩, ⟨ne_a_ka, ne_a_va, ne_a_ia, ne_a_ha, ne_a_hk, ne_ka_va, ne_ka_ia, ne_ka_ha, ne_ka_hk, ne_va_ia, ne_va_ha, ne_va_hk, ne_ia_ha, ne_ia_hk, ne_ha_hk⟩, E_a, F_a_keys, F_a_values, F_a_items, F_a_heap, F_a_heapKeys, F_a_added, F_a_size, V_ka, V_va, V_ia, V_ha, V_hk⟩ := Q
  refine Go.aloadN C X d6_0 (n := 1) rfl rfl rfl ?_
  refine Go.getF C X eT (wd hw 26 rfl) Via.refl F_a_size d6_1 (n := 4) rfl ?_
  clear X eT
  intro T X eT
  refine Go.if0_ne C X d6_4 (n1 := 17) (n2 := 7) (by decide) (by decide) rfl (fun hc4 => ?_) (fun hc4 => ?_)
  · refine Go.aloadN C X d6_17 (n := 18) rfl rfl rfl ?_
    refine Go.getF C X eT (wd hw 17 rfl) Via.refl F_a_heap d6_18 (n := 21) rfl ?_
    clear X eT
    intro T X eT
    refine Go.iconst C X d6_21 (n := 22) rfl (v := (0 : Int32)) rfl ?_
    obtain ⟨vsx47, _, Vx47, hlx47, hvx47, x47, rfl⟩ := V_ha.at (i := 0) (by decide)
    refine Go.ialoadL C X eT Vx47 (i := 0) rfl hvx47 d6_22 (n := 23) rfl ?_
    refine Go.istoreN C X d6_23 (n := 24) rfl (l' := #[.val (.ref a), .val (.int x47), .unset, .unset, .unset, .unset, .unset, .unset, .unset]) rfl ?_
    refine Go.aloadN C X d6_24 (n := 25) rfl rfl rfl ?_
    refine Go.getF C X eT (wd hw 17 rfl) Via.refl F_a_heap d6_25 (n := 28) rfl ?_
    clear X eT
    intro T X eT
    refine Go.aloadN C X d6_28 (n := 29) rfl rfl rfl ?_
    refine Go.dup C X d6_29 (n := 30) rfl rfl ?_
    refine Go.getF C X eT (wd hw 26 rfl) Via.refl F_a_size d6_30 (n := 33) rfl ?_
    clear X eT
    intro T X eT
    refine Go.iconst C X d6_33 (n := 34) rfl (v := (1 : Int32)) rfl ?_
    refine Go.isub C X d6_34 (n := 35) rfl ?_
    show Go p e below _ (T.setTop (mkF m 35 #[.val (.ref a), .val (.int x47), .unset, .unset, .unset, .unset, .unset, .unset, .unset] [(.int (2 : Int32)), (.ref a), (.ref ha)]))
    refine Go.dupX1 C X d6_35 (n := 36) rfl rfl rfl ?_
    refine Go.putF C X eT (wd hw 26 rfl) Via.refl F_a_size E_a (Or.inl (wd hw 27 rfl)) (wd hw 1 rfl) (ty := .int) (by decide) rfl rfl d6_36 (n := 39) rfl ?_
    clear X eT
    intro T h X eT W
    replace E_a := E_a.wr W
    replace F_a_keys := F_a_keys.other W (Or.inr (slot_ne (Or.inl (wd hw 11 rfl)) (Or.inl (wd hw 27 rfl)) (by decide) (t := (.array .double)) (t' := .int) (by decide) (by decide)))
    replace V_ka := V_ka.other W (Ne.symm ne_a_ka)
    replace F_a_values := F_a_values.other W (Or.inr (slot_ne (Or.inl (wd hw 13 rfl)) (Or.inl (wd hw 27 rfl)) (by decide) (t := (.array .double)) (t' := .int) (by decide) (by decide)))
    replace V_va := V_va.other W (Ne.symm ne_a_va)
    replace F_a_items := F_a_items.other W (Or.inr (slot_ne (Or.inl (wd hw 16 rfl)) (Or.inl (wd hw 27 rfl)) (by decide) (t := (.array .int)) (t' := .int) (by decide) (by decide)))
    replace V_ia := V_ia.other W (Ne.symm ne_a_ia)
    replace F_a_heap := F_a_heap.other W (Or.inr (slot_ne (Or.inl (wd hw 18 rfl)) (Or.inl (wd hw 27 rfl)) (by decide) (t := (.array .int)) (t' := .int) (by decide) (by decide)))
    replace V_ha := V_ha.other W (Ne.symm ne_a_ha)
    replace F_a_heapKeys := F_a_heapKeys.other W (Or.inr (slot_ne (Or.inl (wd hw 20 rfl)) (Or.inl (wd hw 27 rfl)) (by decide) (t := (.array .double)) (t' := .int) (by decide) (by decide)))
    replace V_hk := V_hk.other W (Ne.symm ne_a_hk)
    replace F_a_added := F_a_added.other W (Or.inr (slot_ne (Or.inl (wd hw 34 rfl)) (Or.inl (wd hw 27 rfl)) (by decide) (t := .int) (t' := .int) (by decide) (by decide)))
    replace F_a_size := F_a_size.same W
    replace O := O.wr W g_a
    replace N := Fr.snoc X N g_a
    obtain ⟨vsx48, _, Vx48, hlx48, hvx48, x48, rfl⟩ := V_ha.at (i := 2) (by decide)
    refine Go.ialoadL C X eT Vx48 (i := 2) rfl hvx48 d6_39 (n := 40) rfl ?_
    refine Go.istoreN C X d6_40 (n := 41) rfl (l' := #[.val (.ref a), .val (.int x47), .val (.int x48), .unset, .unset, .unset, .unset, .unset, .unset]) rfl ?_
    refine Go.aloadN C X d6_41 (n := 42) rfl rfl rfl ?_
    refine Go.getF C X eT (wd hw 19 rfl) Via.refl F_a_heapKeys d6_42 (n := 45) rfl ?_
    clear X eT
    intro T X eT
    refine Go.aloadN C X d6_45 (n := 46) rfl rfl rfl ?_
    refine Go.getF C X eT (wd hw 26 rfl) Via.refl F_a_size d6_46 (n := 49) rfl ?_
    clear X eT
    intro T X eT
    obtain ⟨vsx49, _, Vx49, hlx49, hvx49, x49, rfl, nx49⟩ := V_hk.at (i := 2) (by decide)
    refine Go.daloadL C X eT Vx49 (i := 2) rfl hvx49 d6_49 (n := 50) rfl ?_
    refine Go.dstoreN C X d6_50 (n := 51) rfl (l' := #[.val (.ref a), .val (.int x47), .val (.int x48), .val (.double x49), .second, .unset, .unset, .unset, .unset]) rfl ?_
    refine Go.iconst C X d6_51 (n := 52) rfl (v := (0 : Int32)) rfl ?_
    refine Go.istore C X d6_52 (n := 54) rfl (l' := #[.val (.ref a), .val (.int x47), .val (.int x48), .val (.double x49), .second, .val (.int (0 : Int32)), .unset, .unset, .unset]) rfl ?_
    refine Go.aloadN C X d6_54 (n := 55) rfl rfl rfl ?_
    refine Go.getF C X eT (wd hw 26 rfl) Via.refl F_a_size d6_55 (n := 58) rfl ?_
    clear X eT
    intro T X eT
    refine Go.iconst C X d6_58 (n := 59) rfl (v := (1 : Int32)) rfl ?_
    refine Go.iushr C X d6_59 (n := 60) rfl ?_
    show Go p e below _ (T.setTop (mkF m 60 #[.val (.ref a), .val (.int x47), .val (.int x48), .val (.double x49), .second, .val (.int (0 : Int32)), .unset, .unset, .unset] [(.int (1 : Int32))]))
    refine Go.istore C X d6_60 (n := 62) rfl (l' := #[.val (.ref a), .val (.int x47), .val (.int x48), .val (.double x49), .second, .val (.int (0 : Int32)), .val (.int (1 : Int32)), .unset, .unset]) rfl ?_
    refine Go.iload C X d6_62 (n := 64) rfl rfl ?_
    refine Go.iload C X d6_64 (n := 66) rfl rfl ?_
    refine Go.icmp_ge C X d6_66 (n1 := 190) (n2 := 69) (by decide) (by decide) rfl (fun hc66 => ?_) (fun hc66 => ?_)
    · exact absurd hc66 (by decide)
    · refine Go.iconst C X d6_69 (n := 70) rfl (v := (2 : Int32)) rfl ?_
      refine Go.iload C X d6_70 (n := 72) rfl rfl ?_
      refine Go.imul C X d6_72 (n := 73) rfl ?_
      show Go p e below _ (T.setTop (mkF m 73 #[.val (.ref a), .val (.int x47), .val (.int x48), .val (.double x49), .second, .val (.int (0 : Int32)), .val (.int (1 : Int32)), .unset, .unset] [(.int (0 : Int32))]))
      refine Go.iconst C X d6_73 (n := 74) rfl (v := (1 : Int32)) rfl ?_
      refine Go.iadd C X d6_74 (n := 75) rfl ?_
      show Go p e below _ (T.setTop (mkF m 75 #[.val (.ref a), .val (.int x47), .val (.int x48), .val (.double x49), .second, .val (.int (0 : Int32)), .val (.int (1 : Int32)), .unset, .unset] [(.int (1 : Int32))]))
      refine Go.istore C X d6_75 (n := 77) rfl (l' := #[.val (.ref a), .val (.int x47), .val (.int x48), .val (.double x49), .second, .val (.int (0 : Int32)), .val (.int (1 : Int32)), .val (.int (1 : Int32)), .unset]) rfl ?_
      refine Go.iload C X d6_77 (n := 79) rfl rfl ?_
      refine Go.iconst C X d6_79 (n := 80) rfl (v := (1 : Int32)) rfl ?_
      refine Go.iadd C X d6_80 (n := 81) rfl ?_
      show Go p e below _ (T.setTop (mkF m 81 #[.val (.ref a), .val (.int x47), .val (.int x48), .val (.double x49), .second, .val (.int (0 : Int32)), .val (.int (1 : Int32)), .val (.int (1 : Int32)), .unset] [(.int (2 : Int32))]))
      refine Go.istore C X d6_81 (n := 83) rfl (l' := #[.val (.ref a), .val (.int x47), .val (.int x48), .val (.double x49), .second, .val (.int (0 : Int32)), .val (.int (1 : Int32)), .val (.int (1 : Int32)), .val (.int (2 : Int32))]) rfl ?_
      refine Go.iload C X d6_83 (n := 85) rfl rfl ?_
      refine Go.aloadN C X d6_85 (n := 86) rfl rfl rfl ?_
      refine Go.getF C X eT (wd hw 26 rfl) Via.refl F_a_size d6_86 (n := 89) rfl ?_
      clear X eT
      intro T X eT
      refine Go.icmp_ge C X d6_89 (n1 := 130) (n2 := 92) (by decide) (by decide) rfl (fun hc89 => ?_) (fun hc89 => ?_)
      · refine Go.aloadN C X d6_130 (n := 131) rfl rfl rfl ?_
        refine Go.getF C X eT (wd hw 19 rfl) Via.refl F_a_heapKeys d6_131 (n := 134) rfl ?_
        clear X eT
        intro T X eT
        refine Go.iload C X d6_134 (n := 136) rfl rfl ?_
        obtain ⟨vsx50, _, Vx50, hlx50, hvx50, x50, rfl, nx50⟩ := V_hk.at (i := 1) (by decide)
        refine Go.daloadL C X eT Vx50 (i := 1) rfl hvx50 d6_136 (n := 137) rfl ?_
        refine Go.aloadN C X d6_137 (n := 138) rfl rfl rfl ?_
        refine Go.getF C X eT (wd hw 17 rfl) Via.refl F_a_heap d6_138 (n := 141) rfl ?_
        clear X eT
        intro T X eT
        refine Go.iload C X d6_141 (n := 143) rfl rfl ?_
        obtain ⟨vsx51, _, Vx51, hlx51, hvx51, x51, rfl⟩ := V_ha.at (i := 1) (by decide)
        refine Go.ialoadL C X eT Vx51 (i := 1) rfl hvx51 d6_143 (n := 144) rfl ?_
        refine Go.dloadN C X d6_144 (n := 145) rfl rfl ?_
        refine Go.iloadN C X d6_145 (n := 146) rfl rfl ?_
        refine Go.stat C X eT (argsL := [(.double x50), (.int x51), (.double x49), (.int x48)]) (rest := []) (rm7 l Z a0 hw n0 _ x50 x49 x51 x48 nx50 nx49) (wd hw 45 rfl) (wd hw 46 rfl) (wd hw 2 rfl) (wd hw 47 rfl) (by decide) (lenOf pd_3 rfl) rfl d6_146 (n := 149) rfl rfl (by decide) (W := 0) rfl (by decide) (by decide) (by decide) ?_
        clear X eT
        intro T h' v L X eT hQ
        obtain ⟨r52, rfl, rfl, hE⟩ := hQ
        replace hE := hE.symm
        subst hE
        replace N := N.app (Fr.nil n0)
        show Go p e below _ (T.setTop (mkF m 149 #[.val (.ref a), .val (.int x47), .val (.int x48), .val (.double x49), .second, .val (.int (0 : Int32)), .val (.int (1 : Int32)), .val (.int (1 : Int32)), .val (.int (2 : Int32))] [(.int r52)]))
        refine Go.if0_ne C X d6_149 (n1 := 155) (n2 := 152) (by decide) (by decide) rfl (fun hc149 => ?_) (fun hc149 => ?_)
        · refine Go.aloadN C X d6_155 (n := 156) rfl rfl rfl ?_
          refine Go.getF C X eT (wd hw 17 rfl) Via.refl F_a_heap d6_156 (n := 159) rfl ?_
          clear X eT
          intro T X eT
          refine Go.iload C X d6_159 (n := 161) rfl rfl ?_
          refine Go.aloadN C X d6_161 (n := 162) rfl rfl rfl ?_
          refine Go.getF C X eT (wd hw 17 rfl) Via.refl F_a_heap d6_162 (n := 165) rfl ?_
          clear X eT
          intro T X eT
          refine Go.iload C X d6_165 (n := 167) rfl rfl ?_
          obtain ⟨vsx53, _, Vx53, hlx53, hvx53, x53, rfl⟩ := V_ha.at (i := 1) (by decide)
          refine Go.ialoadL C X eT Vx53 (i := 1) rfl hvx53 d6_167 (n := 168) rfl ?_
          obtain ⟨vsy54, _, Vy54, hly54, -, -⟩ := V_ha.at (i := 0) (by decide)
          refine Go.iastoreL C X eT Vy54 (i := 0) rfl (by rw [hly54]; decide) d6_168 (n := 169) rfl ?_
          clear X eT
          intro T h X eT W V_new
          clear V_new Vy54
          replace E_a := E_a.wr W
          replace F_a_keys := F_a_keys.other W (Or.inl ne_a_ha)
          replace V_ka := V_ka.other W ne_ka_ha
          replace F_a_values := F_a_values.other W (Or.inl ne_a_ha)
          replace V_va := V_va.other W ne_va_ha
          replace F_a_items := F_a_items.other W (Or.inl ne_a_ha)
          replace V_ia := V_ia.other W ne_ia_ha
          replace F_a_heap := F_a_heap.other W (Or.inl ne_a_ha)
          replace F_a_heapKeys := F_a_heapKeys.other W (Or.inl ne_a_ha)
          replace V_hk := V_hk.other W (Ne.symm ne_ha_hk)
          replace F_a_added := F_a_added.other W (Or.inl ne_a_ha)
          replace F_a_size := F_a_size.other W (Or.inl ne_a_ha)
          replace O := O.wr W g_ha
          replace V_ha := V_ha.set W ⟨_, rfl⟩
          replace N := Fr.snoc X N g_ha
          refine Go.aloadN C X d6_169 (n := 170) rfl rfl rfl ?_
          refine Go.getF C X eT (wd hw 19 rfl) Via.refl F_a_heapKeys d6_170 (n := 173) rfl ?_
          clear X eT
          intro T X eT
          refine Go.iload C X d6_173 (n := 175) rfl rfl ?_
          refine Go.aloadN C X d6_175 (n := 176) rfl rfl rfl ?_
          refine Go.getF C X eT (wd hw 19 rfl) Via.refl F_a_heapKeys d6_176 (n := 179) rfl ?_
          clear X eT
          intro T X eT
          refine Go.iload C X d6_179 (n := 181) rfl rfl ?_
          obtain ⟨vsx55, _, Vx55, hlx55, hvx55, x55, rfl, nx55⟩ := V_hk.at (i := 1) (by decide)
          refine Go.daloadL C X eT Vx55 (i := 1) rfl hvx55 d6_181 (n := 182) rfl ?_
          obtain ⟨vsy56, _, Vy56, hly56, -, -⟩ := V_hk.at (i := 0) (by decide)
          refine Go.dastoreL C X eT Vy56 (i := 0) rfl (by rw [hly56]; decide) d6_182 (n := 183) rfl ?_
          clear X eT
          intro T h X eT W V_new
          clear V_new Vy56
          replace E_a := E_a.wr W
          replace F_a_keys := F_a_keys.other W (Or.inl ne_a_hk)
          replace V_ka := V_ka.other W ne_ka_hk
          replace F_a_values := F_a_values.other W (Or.inl ne_a_hk)
          replace V_va := V_va.other W ne_va_hk
          replace F_a_items := F_a_items.other W (Or.inl ne_a_hk)
          replace V_ia := V_ia.other W ne_ia_hk
          replace F_a_heap := F_a_heap.other W (Or.inl ne_a_hk)
          replace V_ha := V_ha.other W ne_ha_hk
          replace F_a_heapKeys := F_a_heapKeys.other W (Or.inl ne_a_hk)
          replace F_a_added := F_a_added.other W (Or.inl ne_a_hk)
          replace F_a_size := F_a_size.other W (Or.inl ne_a_hk)
          replace O := O.wr W g_hk
          replace V_hk := V_hk.set W ⟨_, rfl, nx55⟩
          replace N := Fr.snoc X N g_hk
          refine Go.iload C X d6_183 (n := 185) rfl rfl ?_
          refine Go.istore C X d6_185 (n := 187) rfl (l' := #[.val (.ref a), .val (.int x47), .val (.int x48), .val (.double x49), .second, .val (.int (1 : Int32)), .val (.int (1 : Int32)), .val (.int (1 : Int32)), .val (.int (2 : Int32))]) rfl ?_
          refine Go.goto C X d6_187 (n := 62) (by decide) (by decide) ?_
          refine Go.iload C X d6_62 (n := 64) rfl rfl ?_
          refine Go.iload C X d6_64 (n := 66) rfl rfl ?_
          refine Go.icmp_ge C X d6_66 (n1 := 190) (n2 := 69) (by decide) (by decide) rfl (fun hc66 => ?_) (fun hc66 => ?_)
          · refine Go.aloadN C X d6_190 (n := 191) rfl rfl rfl ?_
            refine Go.getF C X eT (wd hw 17 rfl) Via.refl F_a_heap d6_191 (n := 194) rfl ?_
            clear X eT
            intro T X eT
            refine Go.iload C X d6_194 (n := 196) rfl rfl ?_
            refine Go.iloadN C X d6_196 (n := 197) rfl rfl ?_
            obtain ⟨vsy57, _, Vy57, hly57, -, -⟩ := V_ha.at (i := 1) (by decide)
            refine Go.iastoreL C X eT Vy57 (i := 1) rfl (by rw [hly57]; decide) d6_197 (n := 198) rfl ?_
            clear X eT
            intro T h X eT W V_new
            clear V_new Vy57
            replace E_a := E_a.wr W
            replace F_a_keys := F_a_keys.other W (Or.inl ne_a_ha)
            replace V_ka := V_ka.other W ne_ka_ha
            replace F_a_values := F_a_values.other W (Or.inl ne_a_ha)
            replace V_va := V_va.other W ne_va_ha
            replace F_a_items := F_a_items.other W (Or.inl ne_a_ha)
            replace V_ia := V_ia.other W ne_ia_ha
            replace F_a_heap := F_a_heap.other W (Or.inl ne_a_ha)
            replace F_a_heapKeys := F_a_heapKeys.other W (Or.inl ne_a_ha)
            replace V_hk := V_hk.other W (Ne.symm ne_ha_hk)
            replace F_a_added := F_a_added.other W (Or.inl ne_a_ha)
            replace F_a_size := F_a_size.other W (Or.inl ne_a_ha)
            replace O := O.wr W g_ha
            replace V_ha := V_ha.set W ⟨_, rfl⟩
            replace N := Fr.snoc X N g_ha
            refine Go.aloadN C X d6_198 (n := 199) rfl rfl rfl ?_
            refine Go.getF C X eT (wd hw 19 rfl) Via.refl F_a_heapKeys d6_199 (n := 202) rfl ?_
            clear X eT
            intro T X eT
            refine Go.iload C X d6_202 (n := 204) rfl rfl ?_
            refine Go.dloadN C X d6_204 (n := 205) rfl rfl ?_
            obtain ⟨vsy58, _, Vy58, hly58, -, -⟩ := V_hk.at (i := 1) (by decide)
            refine Go.dastoreL C X eT Vy58 (i := 1) rfl (by rw [hly58]; decide) d6_205 (n := 206) rfl ?_
            clear X eT
            intro T h X eT W V_new
            clear V_new Vy58
            replace E_a := E_a.wr W
            replace F_a_keys := F_a_keys.other W (Or.inl ne_a_hk)
            replace V_ka := V_ka.other W ne_ka_hk
            replace F_a_values := F_a_values.other W (Or.inl ne_a_hk)
            replace V_va := V_va.other W ne_va_hk
            replace F_a_items := F_a_items.other W (Or.inl ne_a_hk)
            replace V_ia := V_ia.other W ne_ia_hk
            replace F_a_heap := F_a_heap.other W (Or.inl ne_a_hk)
            replace V_ha := V_ha.other W ne_ha_hk
            replace F_a_heapKeys := F_a_heapKeys.other W (Or.inl ne_a_hk)
            replace F_a_added := F_a_added.other W (Or.inl ne_a_hk)
            replace F_a_size := F_a_size.other W (Or.inl ne_a_hk)
            replace O := O.wr W g_hk
            replace V_hk := V_hk.set W ⟨_, rfl, nx49⟩
            replace N := Fr.snoc X N g_hk
            refine Go.iloadN C X d6_206 (n := 207) rfl rfl ?_
            refine Go.retI C X eT d6_207 (by decide) (by decide) ?_
            exact ⟨_, rfl, N, trivial, O, ⟨ka, va, ia, ha, hk, ⟨g_a, g_ka, g_va, g_ia, g_ha, g_hk⟩, ⟨ne_a_ka, ne_a_va, ne_a_ia, ne_a_ha, ne_a_hk, ne_ka_va, ne_ka_ia, ne_ka_ha, ne_ka_hk, ne_va_ia, ne_va_ha, ne_va_hk, ne_ia_ha, ne_ia_hk, ne_ha_hk⟩, E_a, F_a_keys, F_a_values, F_a_items, F_a_heap, F_a_heapKeys, F_a_added, F_a_size, V_ka, V_va, V_ia, V_ha, V_hk⟩⟩
          · exact absurd hc66 (by decide)
        · refine Go.goto C X d6_152 (n := 190) (by decide) (by decide) ?_
          refine Go.aloadN C X d6_190 (n := 191) rfl rfl rfl ?_
          refine Go.getF C X eT (wd hw 17 rfl) Via.refl F_a_heap d6_191 (n := 194) rfl ?_
          clear X eT
          intro T X eT
          refine Go.iload C X d6_194 (n := 196) rfl rfl ?_
          refine Go.iloadN C X d6_196 (n := 197) rfl rfl ?_
          obtain ⟨vsy59, _, Vy59, hly59, -, -⟩ := V_ha.at (i := 0) (by decide)
          refine Go.iastoreL C X eT Vy59 (i := 0) rfl (by rw [hly59]; decide) d6_197 (n := 198) rfl ?_
          clear X eT
          intro T h X eT W V_new
          clear V_new Vy59
          replace E_a := E_a.wr W
          replace F_a_keys := F_a_keys.other W (Or.inl ne_a_ha)
          replace V_ka := V_ka.other W ne_ka_ha
          replace F_a_values := F_a_values.other W (Or.inl ne_a_ha)
          replace V_va := V_va.other W ne_va_ha
          replace F_a_items := F_a_items.other W (Or.inl ne_a_ha)
          replace V_ia := V_ia.other W ne_ia_ha
          replace F_a_heap := F_a_heap.other W (Or.inl ne_a_ha)
          replace F_a_heapKeys := F_a_heapKeys.other W (Or.inl ne_a_ha)
          replace V_hk := V_hk.other W (Ne.symm ne_ha_hk)
          replace F_a_added := F_a_added.other W (Or.inl ne_a_ha)
          replace F_a_size := F_a_size.other W (Or.inl ne_a_ha)
          replace O := O.wr W g_ha
          replace V_ha := V_ha.set W ⟨_, rfl⟩
          replace N := Fr.snoc X N g_ha
          refine Go.aloadN C X d6_198 (n := 199) rfl rfl rfl ?_
          refine Go.getF C X eT (wd hw 19 rfl) Via.refl F_a_heapKeys d6_199 (n := 202) rfl ?_
          clear X eT
          intro T X eT
          refine Go.iload C X d6_202 (n := 204) rfl rfl ?_
          refine Go.dloadN C X d6_204 (n := 205) rfl rfl ?_
          obtain ⟨vsy60, _, Vy60, hly60, -, -⟩ := V_hk.at (i := 0) (by decide)
          refine Go.dastoreL C X eT Vy60 (i := 0) rfl (by rw [hly60]; decide) d6_205 (n := 206) rfl ?_
          clear X eT
          intro T h X eT W V_new
          clear V_new Vy60
          replace E_a := E_a.wr W
          replace F_a_keys := F_a_keys.other W (Or.inl ne_a_hk)
          replace V_ka := V_ka.other W ne_ka_hk
          replace F_a_values := F_a_values.other W (Or.inl ne_a_hk)
          replace V_va := V_va.other W ne_va_hk
          replace F_a_items := F_a_items.other W (Or.inl ne_a_hk)
          replace V_ia := V_ia.other W ne_ia_hk
          replace F_a_heap := F_a_heap.other W (Or.inl ne_a_hk)
          replace V_ha := V_ha.other W ne_ha_hk
          replace F_a_heapKeys := F_a_heapKeys.other W (Or.inl ne_a_hk)
          replace F_a_added := F_a_added.other W (Or.inl ne_a_hk)
          replace F_a_size := F_a_size.other W (Or.inl ne_a_hk)
          replace O := O.wr W g_hk
          replace V_hk := V_hk.set W ⟨_, rfl, nx49⟩
          replace N := Fr.snoc X N g_hk
          refine Go.iloadN C X d6_206 (n := 207) rfl rfl ?_
          refine Go.retI C X eT d6_207 (by decide) (by decide) ?_
          exact ⟨_, rfl, N, trivial, O, ⟨ka, va, ia, ha, hk, ⟨g_a, g_ka, g_va, g_ia, g_ha, g_hk⟩, ⟨ne_a_ka, ne_a_va, ne_a_ia, ne_a_ha, ne_a_hk, ne_ka_va, ne_ka_ia, ne_ka_ha, ne_ka_hk, ne_va_ia, ne_va_ha, ne_va_hk, ne_ia_ha, ne_ia_hk, ne_ha_hk⟩, E_a, F_a_keys, F_a_values, F_a_items, F_a_heap, F_a_heapKeys, F_a_added, F_a_size, V_ka, V_va, V_ia, V_ha, V_hk⟩⟩
      · exact absurd hc89 (by decide)
  · exact absurd hc4 (by decide)
theorem pd_4 : parseMethodDescriptor "()V" = some ⟨[], none⟩ := by decide +kernel
theorem pd_5 : parseMethodDescriptor "()Z" = some ⟨[], some .boolean⟩ := by decide +kernel
theorem pd_6 : parseMethodDescriptor "(DDI)I" = some ⟨[.double, .double, .int], some .int⟩ := by decide +kernel
theorem pd_7 : parseMethodDescriptor "()I" = some ⟨[], some .int⟩ := by decide +kernel
theorem own_four {x : Int32} (h : 0 ≤ x.toInt ∧ x.toInt < 4) : x = 0 ∨ x = 1 ∨ x = 2 ∨ x = 3 := by
  have h0 : (0 : Int32).toInt = 0 := by decide
  have h1 : (1 : Int32).toInt = 1 := by decide
  have h2 : (2 : Int32).toInt = 2 := by decide
  have h3 : (3 : Int32).toInt = 3 := by decide
  rcases (by omega : x.toInt = 0 ∨ x.toInt = 1 ∨ x.toInt = 2 ∨ x.toInt = 3) with q | q | q | q
  · exact Or.inl (Int32.toInt_inj.mp (q.trans h0.symm))
  · exact Or.inr (Or.inl (Int32.toInt_inj.mp (q.trans h1.symm)))
  · exact Or.inr (Or.inr (Or.inl (Int32.toInt_inj.mp (q.trans h2.symm))))
  · exact Or.inr (Or.inr (Or.inr (Int32.toInt_inj.mp (q.trans h3.symm))))
theorem own_m3 (x : Int32) : 0 ≤ (x &&& (3 : Int32)).toInt ∧ (x &&& (3 : Int32)).toInt < 4 := by
  rw [Jvm.Kit.i32_mask x (3 : Int32) (k := 2) (by decide) (by decide)]; omega
theorem pn_2 : plainName "com/example/routes_to_timing/routestotiming/routing/SearchQueueIsEmptyPinLaw" = true := by first | (simp [plainName, overriddenIn]; done) | decide +kernel
set_option maxRecDepth 65536 in
set_option maxHeartbeats 40000000 in
theorem rm0 (l : Launch) (Z : State) (a0 : Array Value) (hw : ∀ d ∈ tables_1, d.before a0 Z = true) (n0 : Nat) (h0 : Heap) (p0 p1 p2 p3 p4 p5 : Int32) (O : Old Z n0 h0) :
    Ctr l Z x code maxLocals ret room_1 #[(.int p0), (.int p1), (.int p2), (.int p3), (.int p4), (.int p5)] h0 (fun v h L => v = some (.int 1) ∧ Fr n0 L) := by
  refine Ctr.mk (plainFor_of_name pn_2) (ls := #[.val (.int p0), .val (.int p1), .val (.int p2), .val (.int p3), .val (.int p4), .val (.int p5), .unset, .unset, .unset, .unset, .unset]) (fun m => by first | (simp [entryFrame, mkF, argsToLocals, Value.category, maxLocals]; done) | rfl) ?_
  intro p e s m below meth c T C X eT hs0
  have N := Fr.nil n0
  show Go p e below _ (T.setTop (mkF m 0 #[.val (.int p0), .val (.int p1), .val (.int p2), .val (.int p3), .val (.int p4), .val (.int p5), .unset, .unset, .unset, .unset, .unset] []))
  refine Go.newO C X eT (wd hw 0 rfl) (wd hw 1 rfl) (wd hw 2 rfl) at_0 (n := 3) rfl (by decide) (by decide) ?_
  clear X eT
  intro T h a z_a X eT E E_a D_
  have g_a : n0 ≤ a := by rw [z_a]; exact O.le
  replace O := O.ext E
  have F_a_keys : Fld Z h a "com/example/routes_to_timing/routestotiming/routing/SearchQueue" "keys" "[D" .null := D_ (Or.inl (wd hw 11 rfl)) (ty := (.array .double)) (by decide)
  have F_a_values : Fld Z h a "com/example/routes_to_timing/routestotiming/routing/SearchQueue" "values" "[D" .null := D_ (Or.inl (wd hw 13 rfl)) (ty := (.array .double)) (by decide)
  have F_a_items : Fld Z h a "com/example/routes_to_timing/routestotiming/routing/SearchQueue" "items" "[I" .null := D_ (Or.inl (wd hw 16 rfl)) (ty := (.array .int)) (by decide)
  have F_a_heap : Fld Z h a "com/example/routes_to_timing/routestotiming/routing/SearchQueue" "heap" "[I" .null := D_ (Or.inl (wd hw 18 rfl)) (ty := (.array .int)) (by decide)
  have F_a_heapKeys : Fld Z h a "com/example/routes_to_timing/routestotiming/routing/SearchQueue" "heapKeys" "[D" .null := D_ (Or.inl (wd hw 20 rfl)) (ty := (.array .double)) (by decide)
  have F_a_size : Fld Z h a "com/example/routes_to_timing/routestotiming/routing/SearchQueue" "size" "I" (.int (0 : Int32)) := D_ (Or.inl (wd hw 27 rfl)) (ty := .int) (by decide)
  have F_a_added : Fld Z h a "com/example/routes_to_timing/routestotiming/routing/SearchQueue" "added" "I" (.int (0 : Int32)) := D_ (Or.inl (wd hw 34 rfl)) (ty := .int) (by decide)
  refine Go.dup C X at_3 (n := 4) rfl rfl ?_
  refine Go.spec C X eT (argsL := []) (rest := [(.ref a)]) (a := a) (rm1 l Z a0 hw n0 _ a g_a O E_a F_a_keys F_a_values F_a_items F_a_heap F_a_heapKeys F_a_added F_a_size) rfl (wd hw 3 rfl) (wd hw 4 rfl) (wd hw 2 rfl) (wd hw 5 rfl) (by decide) (lenOf pd_4 rfl) rfl at_4 (n := 7) rfl rfl (by decide) (W := 1) rfl (by decide) (by decide) (by decide) ?_
  clear X eT
  intro T h v L X eT hQ
  obtain ⟨rfl, Nq, KK, O, Q⟩ := hQ
  replace N := N.app Nq
  show Go p e below _ (T.setTop (mkF m 7 #[.val (.int p0), .val (.int p1), .val (.int p2), .val (.int p3), .val (.int p4), .val (.int p5), .unset, .unset, .unset, .unset, .unset] [(.ref a)]))
  refine Go.astore C X at_7 (n := 9) rfl rfl (l' := #[.val (.int p0), .val (.int p1), .val (.int p2), .val (.int p3), .val (.int p4), .val (.int p5), .val (.ref a), .unset, .unset, .unset, .unset]) rfl ?_
  refine Go.aload C X at_9 (n := 11) rfl rfl rfl ?_
  have E_a := Q.exa
  refine Go.virt C X eT (argsL := []) (rest := []) (a := a) (rm3 l Z a0 hw n0 _ a (0 : Int32) Q.size) (wd hw 21 rfl) (wd hw 22 rfl) (notFace_of_selects (args := #[]) (mvT C.hZ (wd hw 24 rfl))) (wd hw 24 rfl) (wd hw 23 rfl) (wd hw 2 rfl) (wd hw 25 rfl) (by decide) E_a (lenOf pd_5 rfl) rfl at_11 (n := 14) rfl rfl (by decide) (W := 0) rfl (by decide) (by decide) (by decide) ?_
  clear X eT
  intro T h' v L X eT hQ
  obtain ⟨rfl, rfl, hE⟩ := hQ
  replace hE := hE.symm
  subst hE
  replace N := N.app (Fr.nil n0)
  show Go p e below _ (T.setTop (mkF m 14 #[.val (.int p0), .val (.int p1), .val (.int p2), .val (.int p3), .val (.int p4), .val (.int p5), .val (.ref a), .unset, .unset, .unset, .unset] [(.int (1 : Int32))]))
  refine Go.istore C X at_14 (n := 16) rfl (l' := #[.val (.int p0), .val (.int p1), .val (.int p2), .val (.int p3), .val (.int p4), .val (.int p5), .val (.ref a), .val (.int (1 : Int32)), .unset, .unset, .unset]) rfl ?_
  refine Go.iloadN C X at_16 (n := 17) rfl rfl ?_
  refine Go.iconst C X at_17 (n := 18) rfl (v := (3 : Int32)) rfl ?_
  refine Go.iand C X at_18 (n := 19) rfl ?_
  obtain ⟨u8, qu8⟩ : ∃ z, z = (p0 &&& (3 : Int32)) := ⟨_, rfl⟩
  rw [← qu8]
  have hu8 := own_four (x := u8) (by rw [qu8]; exact own_m3 _)
  clear qu8
  obtain rfl | rfl | rfl | rfl := hu8
  · show Go p e below _ (T.setTop (mkF m 19 #[.val (.int p0), .val (.int p1), .val (.int p2), .val (.int p3), .val (.int p4), .val (.int p5), .val (.ref a), .val (.int (1 : Int32)), .unset, .unset, .unset] [(.int (0 : Int32))]))
    refine Go.istore C X at_19 (n := 21) rfl (l' := #[.val (.int p0), .val (.int p1), .val (.int p2), .val (.int p3), .val (.int p4), .val (.int p5), .val (.ref a), .val (.int (1 : Int32)), .val (.int (0 : Int32)), .unset, .unset]) rfl ?_
    refine Go.iload C X at_21 (n := 23) rfl rfl ?_
    refine Go.iconst C X at_23 (n := 24) rfl (v := (3 : Int32)) rfl ?_
    refine Go.icmp_le C X at_24 (n1 := 30) (n2 := 27) (by decide) (by decide) rfl (fun hc24 => ?_) (fun hc24 => ?_)
    · refine Go.iloadN C X at_30 (n := 31) rfl rfl ?_
      refine Go.iconst C X at_31 (n := 32) rfl (v := (3 : Int32)) rfl ?_
      refine Go.iand C X at_32 (n := 33) rfl ?_
      obtain ⟨u9, qu9⟩ : ∃ z, z = (p1 &&& (3 : Int32)) := ⟨_, rfl⟩
      rw [← qu9]
      have hu9 := own_four (x := u9) (by rw [qu9]; exact own_m3 _)
      clear qu9
      obtain rfl | rfl | rfl | rfl := hu9
      · show Go p e below _ (T.setTop (mkF m 33 #[.val (.int p0), .val (.int p1), .val (.int p2), .val (.int p3), .val (.int p4), .val (.int p5), .val (.ref a), .val (.int (1 : Int32)), .val (.int (0 : Int32)), .unset, .unset] [(.int (0 : Int32))]))
        refine Go.istore C X at_33 (n := 35) rfl (l' := #[.val (.int p0), .val (.int p1), .val (.int p2), .val (.int p3), .val (.int p4), .val (.int p5), .val (.ref a), .val (.int (1 : Int32)), .val (.int (0 : Int32)), .val (.int (0 : Int32)), .unset]) rfl ?_
        refine Go.iload C X at_35 (n := 37) rfl rfl ?_
        refine Go.iload C X at_37 (n := 39) rfl rfl ?_
        refine Go.icmp_le C X at_39 (n1 := 46) (n2 := 42) (by decide) (by decide) rfl (fun hc39 => ?_) (fun hc39 => ?_)
        · refine Go.iload C X at_46 (n := 48) rfl rfl ?_
          refine Go.iconst C X at_48 (n := 49) rfl (v := (1 : Int32)) rfl ?_
          refine Go.icmp_lt C X at_49 (n1 := 62) (n2 := 52) (by decide) (by decide) rfl (fun hc49 => ?_) (fun hc49 => ?_)
          · refine Go.iload C X at_62 (n := 64) rfl rfl ?_
            refine Go.iconst C X at_64 (n := 65) rfl (v := (2 : Int32)) rfl ?_
            refine Go.icmp_lt C X at_65 (n1 := 78) (n2 := 68) (by decide) (by decide) rfl (fun hc65 => ?_) (fun hc65 => ?_)
            · refine Go.iload C X at_78 (n := 80) rfl rfl ?_
              refine Go.iconst C X at_80 (n := 81) rfl (v := (3 : Int32)) rfl ?_
              refine Go.icmp_lt C X at_81 (n1 := 97) (n2 := 84) (by decide) (by decide) rfl (fun hc81 => ?_) (fun hc81 => ?_)
              · refine Go.iload C X at_97 (n := 99) rfl rfl ?_
                refine Go.iconst C X at_99 (n := 100) rfl (v := (1 : Int32)) rfl ?_
                refine Go.icmp_lt C X at_100 (n1 := 109) (n2 := 103) (by decide) (by decide) rfl (fun hc100 => ?_) (fun hc100 => ?_)
                · refine Go.iload C X at_109 (n := 111) rfl rfl ?_
                  refine Go.iconst C X at_111 (n := 112) rfl (v := (2 : Int32)) rfl ?_
                  refine Go.icmp_lt C X at_112 (n1 := 121) (n2 := 115) (by decide) (by decide) rfl (fun hc112 => ?_) (fun hc112 => ?_)
                  · refine Go.iload C X at_121 (n := 123) rfl rfl ?_
                    refine Go.iconst C X at_123 (n := 124) rfl (v := (3 : Int32)) rfl ?_
                    refine Go.icmp_lt C X at_124 (n1 := 133) (n2 := 127) (by decide) (by decide) rfl (fun hc124 => ?_) (fun hc124 => ?_)
                    · refine Go.iload C X at_133 (n := 135) rfl rfl ?_
                      refine Go.iload C X at_135 (n := 137) rfl rfl ?_
                      refine Go.icmp_ne C X at_137 (n1 := 144) (n2 := 140) (by decide) (by decide) rfl (fun hc137 => ?_) (fun hc137 => ?_)
                      · exact absurd hc137 (by decide)
                      · refine Go.iconst C X at_140 (n := 141) rfl (v := (1 : Int32)) rfl ?_
                        refine Go.goto C X at_141 (n := 145) (by decide) (by decide) ?_
                        refine Go.istore C X at_145 (n := 147) rfl (l' := #[.val (.int p0), .val (.int p1), .val (.int p2), .val (.int p3), .val (.int p4), .val (.int p5), .val (.ref a), .val (.int (1 : Int32)), .val (.int (0 : Int32)), .val (.int (0 : Int32)), .val (.int (1 : Int32))]) rfl ?_
                        refine Go.iload C X at_147 (n := 149) rfl rfl ?_
                        refine Go.if0_eq C X at_149 (n1 := 166) (n2 := 152) (by decide) (by decide) rfl (fun hc149 => ?_) (fun hc149 => ?_)
                        · exact absurd hc149 (by decide)
                        · refine Go.aload C X at_152 (n := 154) rfl rfl rfl ?_
                          have E_a := Q.exa
                          refine Go.virt C X eT (argsL := []) (rest := []) (a := a) (rm3 l Z a0 hw n0 _ a (0 : Int32) Q.size) (wd hw 21 rfl) (wd hw 22 rfl) (notFace_of_selects (args := #[]) (mvT C.hZ (wd hw 24 rfl))) (wd hw 24 rfl) (wd hw 23 rfl) (wd hw 2 rfl) (wd hw 25 rfl) (by decide) E_a (lenOf pd_5 rfl) rfl at_154 (n := 157) rfl rfl (by decide) (W := 0) rfl (by decide) (by decide) (by decide) ?_
                          clear X eT
                          intro T h' v L X eT hQ
                          obtain ⟨rfl, rfl, hE⟩ := hQ
                          replace hE := hE.symm
                          subst hE
                          replace N := N.app (Fr.nil n0)
                          show Go p e below _ (T.setTop (mkF m 157 #[.val (.int p0), .val (.int p1), .val (.int p2), .val (.int p3), .val (.int p4), .val (.int p5), .val (.ref a), .val (.int (1 : Int32)), .val (.int (0 : Int32)), .val (.int (0 : Int32)), .val (.int (1 : Int32))] [(.int (1 : Int32))]))
                          refine Go.iload C X at_157 (n := 159) rfl rfl ?_
                          refine Go.icmp_ne C X at_159 (n1 := 166) (n2 := 162) (by decide) (by decide) rfl (fun hc159 => ?_) (fun hc159 => ?_)
                          · exact absurd hc159 (by decide)
                          · refine Go.iconst C X at_162 (n := 163) rfl (v := (1 : Int32)) rfl ?_
                            refine Go.goto C X at_163 (n := 167) (by decide) (by decide) ?_
                            refine Go.istore C X at_167 (n := 169) rfl (l' := #[.val (.int p0), .val (.int p1), .val (.int p2), .val (.int p3), .val (.int p4), .val (.int p5), .val (.ref a), .val (.int (1 : Int32)), .val (.int (0 : Int32)), .val (.int (0 : Int32)), .val (.int (1 : Int32))]) rfl ?_
                            refine Go.iload C X at_169 (n := 171) rfl rfl ?_
                            refine Go.iconst C X at_171 (n := 172) rfl (v := (1 : Int32)) rfl ?_
                            refine Go.iand C X at_172 (n := 173) rfl ?_
                            refine Go.if0_eq C X at_173 (n1 := 201) (n2 := 176) (by decide) (by decide) rfl (fun hc173 => ?_) (fun hc173 => ?_)
                            · refine Go.iload C X at_201 (n := 203) rfl rfl ?_
                              refine Go.retN C X eT (Or.inl rfl) (w := (1 : Int32)) (by decide) at_203 (by decide) (by decide) ?_
                              exact ⟨rfl, N⟩
                            · refine Go.aload C X at_176 (n := 178) rfl rfl rfl ?_
                              have E_a := Q.exa
                              refine Go.virt C X eT (argsL := []) (rest := []) (a := a) (rm4 l Z a0 hw n0 _ a _ _ O Q) (wd hw 28 rfl) (wd hw 29 rfl) (notFace_of_selects (args := #[]) (mvT C.hZ (wd hw 31 rfl))) (wd hw 31 rfl) (wd hw 30 rfl) (wd hw 2 rfl) (wd hw 32 rfl) (by decide) E_a (lenOf pd_4 rfl) rfl at_178 (n := 181) rfl rfl (by decide) (W := 0) rfl (by decide) (by decide) (by decide) ?_
                              clear X eT
                              intro T h v L X eT hQ
                              obtain ⟨rfl, Nq, KK, O, Q⟩ := hQ
                              replace N := N.app Nq
                              show Go p e below _ (T.setTop (mkF m 181 #[.val (.int p0), .val (.int p1), .val (.int p2), .val (.int p3), .val (.int p4), .val (.int p5), .val (.ref a), .val (.int (1 : Int32)), .val (.int (0 : Int32)), .val (.int (0 : Int32)), .val (.int (1 : Int32))] []))
                              refine Go.iload C X at_181 (n := 183) rfl rfl ?_
                              refine Go.if0_eq C X at_183 (n1 := 198) (n2 := 186) (by decide) (by decide) rfl (fun hc183 => ?_) (fun hc183 => ?_)
                              · exact absurd hc183 (by decide)
                              · refine Go.aload C X at_186 (n := 188) rfl rfl rfl ?_
                                have E_a := Q.exa
                                refine Go.virt C X eT (argsL := []) (rest := []) (a := a) (rm3 l Z a0 hw n0 _ a (0 : Int32) Q.size) (wd hw 21 rfl) (wd hw 22 rfl) (notFace_of_selects (args := #[]) (mvT C.hZ (wd hw 24 rfl))) (wd hw 24 rfl) (wd hw 23 rfl) (wd hw 2 rfl) (wd hw 25 rfl) (by decide) E_a (lenOf pd_5 rfl) rfl at_188 (n := 191) rfl rfl (by decide) (W := 0) rfl (by decide) (by decide) (by decide) ?_
                                clear X eT
                                intro T h' v L X eT hQ
                                obtain ⟨rfl, rfl, hE⟩ := hQ
                                replace hE := hE.symm
                                subst hE
                                replace N := N.app (Fr.nil n0)
                                show Go p e below _ (T.setTop (mkF m 191 #[.val (.int p0), .val (.int p1), .val (.int p2), .val (.int p3), .val (.int p4), .val (.int p5), .val (.ref a), .val (.int (1 : Int32)), .val (.int (0 : Int32)), .val (.int (0 : Int32)), .val (.int (1 : Int32))] [(.int (1 : Int32))]))
                                refine Go.if0_eq C X at_191 (n1 := 198) (n2 := 194) (by decide) (by decide) rfl (fun hc191 => ?_) (fun hc191 => ?_)
                                · exact absurd hc191 (by decide)
                                · refine Go.iconst C X at_194 (n := 195) rfl (v := (1 : Int32)) rfl ?_
                                  refine Go.goto C X at_195 (n := 199) (by decide) (by decide) ?_
                                  refine Go.istore C X at_199 (n := 201) rfl (l' := #[.val (.int p0), .val (.int p1), .val (.int p2), .val (.int p3), .val (.int p4), .val (.int p5), .val (.ref a), .val (.int (1 : Int32)), .val (.int (0 : Int32)), .val (.int (0 : Int32)), .val (.int (1 : Int32))]) rfl ?_
                                  refine Go.iload C X at_201 (n := 203) rfl rfl ?_
                                  refine Go.retN C X eT (Or.inl rfl) (w := (1 : Int32)) (by decide) at_203 (by decide) (by decide) ?_
                                  exact ⟨rfl, N⟩
                    · exact absurd hc124 (by decide)
                  · exact absurd hc112 (by decide)
                · exact absurd hc100 (by decide)
              · exact absurd hc81 (by decide)
            · exact absurd hc65 (by decide)
          · exact absurd hc49 (by decide)
        · exact absurd hc39 (by decide)
      · show Go p e below _ (T.setTop (mkF m 33 #[.val (.int p0), .val (.int p1), .val (.int p2), .val (.int p3), .val (.int p4), .val (.int p5), .val (.ref a), .val (.int (1 : Int32)), .val (.int (0 : Int32)), .unset, .unset] [(.int (1 : Int32))]))
        refine Go.istore C X at_33 (n := 35) rfl (l' := #[.val (.int p0), .val (.int p1), .val (.int p2), .val (.int p3), .val (.int p4), .val (.int p5), .val (.ref a), .val (.int (1 : Int32)), .val (.int (0 : Int32)), .val (.int (1 : Int32)), .unset]) rfl ?_
        refine Go.iload C X at_35 (n := 37) rfl rfl ?_
        refine Go.iload C X at_37 (n := 39) rfl rfl ?_
        refine Go.icmp_le C X at_39 (n1 := 46) (n2 := 42) (by decide) (by decide) rfl (fun hc39 => ?_) (fun hc39 => ?_)
        · exact absurd hc39 (by decide)
        · refine Go.iload C X at_42 (n := 44) rfl rfl ?_
          refine Go.istore C X at_44 (n := 46) rfl (l' := #[.val (.int p0), .val (.int p1), .val (.int p2), .val (.int p3), .val (.int p4), .val (.int p5), .val (.ref a), .val (.int (1 : Int32)), .val (.int (0 : Int32)), .val (.int (0 : Int32)), .unset]) rfl ?_
          refine Go.iload C X at_46 (n := 48) rfl rfl ?_
          refine Go.iconst C X at_48 (n := 49) rfl (v := (1 : Int32)) rfl ?_
          refine Go.icmp_lt C X at_49 (n1 := 62) (n2 := 52) (by decide) (by decide) rfl (fun hc49 => ?_) (fun hc49 => ?_)
          · refine Go.iload C X at_62 (n := 64) rfl rfl ?_
            refine Go.iconst C X at_64 (n := 65) rfl (v := (2 : Int32)) rfl ?_
            refine Go.icmp_lt C X at_65 (n1 := 78) (n2 := 68) (by decide) (by decide) rfl (fun hc65 => ?_) (fun hc65 => ?_)
            · refine Go.iload C X at_78 (n := 80) rfl rfl ?_
              refine Go.iconst C X at_80 (n := 81) rfl (v := (3 : Int32)) rfl ?_
              refine Go.icmp_lt C X at_81 (n1 := 97) (n2 := 84) (by decide) (by decide) rfl (fun hc81 => ?_) (fun hc81 => ?_)
              · refine Go.iload C X at_97 (n := 99) rfl rfl ?_
                refine Go.iconst C X at_99 (n := 100) rfl (v := (1 : Int32)) rfl ?_
                refine Go.icmp_lt C X at_100 (n1 := 109) (n2 := 103) (by decide) (by decide) rfl (fun hc100 => ?_) (fun hc100 => ?_)
                · refine Go.iload C X at_109 (n := 111) rfl rfl ?_
                  refine Go.iconst C X at_111 (n := 112) rfl (v := (2 : Int32)) rfl ?_
                  refine Go.icmp_lt C X at_112 (n1 := 121) (n2 := 115) (by decide) (by decide) rfl (fun hc112 => ?_) (fun hc112 => ?_)
                  · refine Go.iload C X at_121 (n := 123) rfl rfl ?_
                    refine Go.iconst C X at_123 (n := 124) rfl (v := (3 : Int32)) rfl ?_
                    refine Go.icmp_lt C X at_124 (n1 := 133) (n2 := 127) (by decide) (by decide) rfl (fun hc124 => ?_) (fun hc124 => ?_)
                    · refine Go.iload C X at_133 (n := 135) rfl rfl ?_
                      refine Go.iload C X at_135 (n := 137) rfl rfl ?_
                      refine Go.icmp_ne C X at_137 (n1 := 144) (n2 := 140) (by decide) (by decide) rfl (fun hc137 => ?_) (fun hc137 => ?_)
                      · exact absurd hc137 (by decide)
                      · refine Go.iconst C X at_140 (n := 141) rfl (v := (1 : Int32)) rfl ?_
                        refine Go.goto C X at_141 (n := 145) (by decide) (by decide) ?_
                        refine Go.istore C X at_145 (n := 147) rfl (l' := #[.val (.int p0), .val (.int p1), .val (.int p2), .val (.int p3), .val (.int p4), .val (.int p5), .val (.ref a), .val (.int (1 : Int32)), .val (.int (0 : Int32)), .val (.int (0 : Int32)), .val (.int (1 : Int32))]) rfl ?_
                        refine Go.iload C X at_147 (n := 149) rfl rfl ?_
                        refine Go.if0_eq C X at_149 (n1 := 166) (n2 := 152) (by decide) (by decide) rfl (fun hc149 => ?_) (fun hc149 => ?_)
                        · exact absurd hc149 (by decide)
                        · refine Go.aload C X at_152 (n := 154) rfl rfl rfl ?_
                          have E_a := Q.exa
                          refine Go.virt C X eT (argsL := []) (rest := []) (a := a) (rm3 l Z a0 hw n0 _ a (0 : Int32) Q.size) (wd hw 21 rfl) (wd hw 22 rfl) (notFace_of_selects (args := #[]) (mvT C.hZ (wd hw 24 rfl))) (wd hw 24 rfl) (wd hw 23 rfl) (wd hw 2 rfl) (wd hw 25 rfl) (by decide) E_a (lenOf pd_5 rfl) rfl at_154 (n := 157) rfl rfl (by decide) (W := 0) rfl (by decide) (by decide) (by decide) ?_
                          clear X eT
                          intro T h' v L X eT hQ
                          obtain ⟨rfl, rfl, hE⟩ := hQ
                          replace hE := hE.symm
                          subst hE
                          replace N := N.app (Fr.nil n0)
                          show Go p e below _ (T.setTop (mkF m 157 #[.val (.int p0), .val (.int p1), .val (.int p2), .val (.int p3), .val (.int p4), .val (.int p5), .val (.ref a), .val (.int (1 : Int32)), .val (.int (0 : Int32)), .val (.int (0 : Int32)), .val (.int (1 : Int32))] [(.int (1 : Int32))]))
                          refine Go.iload C X at_157 (n := 159) rfl rfl ?_
                          refine Go.icmp_ne C X at_159 (n1 := 166) (n2 := 162) (by decide) (by decide) rfl (fun hc159 => ?_) (fun hc159 => ?_)
                          · exact absurd hc159 (by decide)
                          · refine Go.iconst C X at_162 (n := 163) rfl (v := (1 : Int32)) rfl ?_
                            refine Go.goto C X at_163 (n := 167) (by decide) (by decide) ?_
                            refine Go.istore C X at_167 (n := 169) rfl (l' := #[.val (.int p0), .val (.int p1), .val (.int p2), .val (.int p3), .val (.int p4), .val (.int p5), .val (.ref a), .val (.int (1 : Int32)), .val (.int (0 : Int32)), .val (.int (0 : Int32)), .val (.int (1 : Int32))]) rfl ?_
                            refine Go.iload C X at_169 (n := 171) rfl rfl ?_
                            refine Go.iconst C X at_171 (n := 172) rfl (v := (1 : Int32)) rfl ?_
                            refine Go.iand C X at_172 (n := 173) rfl ?_
                            refine Go.if0_eq C X at_173 (n1 := 201) (n2 := 176) (by decide) (by decide) rfl (fun hc173 => ?_) (fun hc173 => ?_)
                            · refine Go.iload C X at_201 (n := 203) rfl rfl ?_
                              refine Go.retN C X eT (Or.inl rfl) (w := (1 : Int32)) (by decide) at_203 (by decide) (by decide) ?_
                              exact ⟨rfl, N⟩
                            · refine Go.aload C X at_176 (n := 178) rfl rfl rfl ?_
                              have E_a := Q.exa
                              refine Go.virt C X eT (argsL := []) (rest := []) (a := a) (rm4 l Z a0 hw n0 _ a _ _ O Q) (wd hw 28 rfl) (wd hw 29 rfl) (notFace_of_selects (args := #[]) (mvT C.hZ (wd hw 31 rfl))) (wd hw 31 rfl) (wd hw 30 rfl) (wd hw 2 rfl) (wd hw 32 rfl) (by decide) E_a (lenOf pd_4 rfl) rfl at_178 (n := 181) rfl rfl (by decide) (W := 0) rfl (by decide) (by decide) (by decide) ?_
                              clear X eT
                              intro T h v L X eT hQ
                              obtain ⟨rfl, Nq, KK, O, Q⟩ := hQ
                              replace N := N.app Nq
                              show Go p e below _ (T.setTop (mkF m 181 #[.val (.int p0), .val (.int p1), .val (.int p2), .val (.int p3), .val (.int p4), .val (.int p5), .val (.ref a), .val (.int (1 : Int32)), .val (.int (0 : Int32)), .val (.int (0 : Int32)), .val (.int (1 : Int32))] []))
                              refine Go.iload C X at_181 (n := 183) rfl rfl ?_
                              refine Go.if0_eq C X at_183 (n1 := 198) (n2 := 186) (by decide) (by decide) rfl (fun hc183 => ?_) (fun hc183 => ?_)
                              · exact absurd hc183 (by decide)
                              · refine Go.aload C X at_186 (n := 188) rfl rfl rfl ?_
                                have E_a := Q.exa
                                refine Go.virt C X eT (argsL := []) (rest := []) (a := a) (rm3 l Z a0 hw n0 _ a (0 : Int32) Q.size) (wd hw 21 rfl) (wd hw 22 rfl) (notFace_of_selects (args := #[]) (mvT C.hZ (wd hw 24 rfl))) (wd hw 24 rfl) (wd hw 23 rfl) (wd hw 2 rfl) (wd hw 25 rfl) (by decide) E_a (lenOf pd_5 rfl) rfl at_188 (n := 191) rfl rfl (by decide) (W := 0) rfl (by decide) (by decide) (by decide) ?_
                                clear X eT
                                intro T h' v L X eT hQ
                                obtain ⟨rfl, rfl, hE⟩ := hQ
                                replace hE := hE.symm
                                subst hE
                                replace N := N.app (Fr.nil n0)
                                show Go p e below _ (T.setTop (mkF m 191 #[.val (.int p0), .val (.int p1), .val (.int p2), .val (.int p3), .val (.int p4), .val (.int p5), .val (.ref a), .val (.int (1 : Int32)), .val (.int (0 : Int32)), .val (.int (0 : Int32)), .val (.int (1 : Int32))] [(.int (1 : Int32))]))
                                refine Go.if0_eq C X at_191 (n1 := 198) (n2 := 194) (by decide) (by decide) rfl (fun hc191 => ?_) (fun hc191 => ?_)
                                · exact absurd hc191 (by decide)
                                · refine Go.iconst C X at_194 (n := 195) rfl (v := (1 : Int32)) rfl ?_
                                  refine Go.goto C X at_195 (n := 199) (by decide) (by decide) ?_
                                  refine Go.istore C X at_199 (n := 201) rfl (l' := #[.val (.int p0), .val (.int p1), .val (.int p2), .val (.int p3), .val (.int p4), .val (.int p5), .val (.ref a), .val (.int (1 : Int32)), .val (.int (0 : Int32)), .val (.int (0 : Int32)), .val (.int (1 : Int32))]) rfl ?_
                                  refine Go.iload C X at_201 (n := 203) rfl rfl ?_
                                  refine Go.retN C X eT (Or.inl rfl) (w := (1 : Int32)) (by decide) at_203 (by decide) (by decide) ?_
                                  exact ⟨rfl, N⟩
                    · exact absurd hc124 (by decide)
                  · exact absurd hc112 (by decide)
                · exact absurd hc100 (by decide)
              · exact absurd hc81 (by decide)
            · exact absurd hc65 (by decide)
          · exact absurd hc49 (by decide)
      · show Go p e below _ (T.setTop (mkF m 33 #[.val (.int p0), .val (.int p1), .val (.int p2), .val (.int p3), .val (.int p4), .val (.int p5), .val (.ref a), .val (.int (1 : Int32)), .val (.int (0 : Int32)), .unset, .unset] [(.int (2 : Int32))]))
        refine Go.istore C X at_33 (n := 35) rfl (l' := #[.val (.int p0), .val (.int p1), .val (.int p2), .val (.int p3), .val (.int p4), .val (.int p5), .val (.ref a), .val (.int (1 : Int32)), .val (.int (0 : Int32)), .val (.int (2 : Int32)), .unset]) rfl ?_
        refine Go.iload C X at_35 (n := 37) rfl rfl ?_
        refine Go.iload C X at_37 (n := 39) rfl rfl ?_
        refine Go.icmp_le C X at_39 (n1 := 46) (n2 := 42) (by decide) (by decide) rfl (fun hc39 => ?_) (fun hc39 => ?_)
        · exact absurd hc39 (by decide)
        · refine Go.iload C X at_42 (n := 44) rfl rfl ?_
          refine Go.istore C X at_44 (n := 46) rfl (l' := #[.val (.int p0), .val (.int p1), .val (.int p2), .val (.int p3), .val (.int p4), .val (.int p5), .val (.ref a), .val (.int (1 : Int32)), .val (.int (0 : Int32)), .val (.int (0 : Int32)), .unset]) rfl ?_
          refine Go.iload C X at_46 (n := 48) rfl rfl ?_
          refine Go.iconst C X at_48 (n := 49) rfl (v := (1 : Int32)) rfl ?_
          refine Go.icmp_lt C X at_49 (n1 := 62) (n2 := 52) (by decide) (by decide) rfl (fun hc49 => ?_) (fun hc49 => ?_)
          · refine Go.iload C X at_62 (n := 64) rfl rfl ?_
            refine Go.iconst C X at_64 (n := 65) rfl (v := (2 : Int32)) rfl ?_
            refine Go.icmp_lt C X at_65 (n1 := 78) (n2 := 68) (by decide) (by decide) rfl (fun hc65 => ?_) (fun hc65 => ?_)
            · refine Go.iload C X at_78 (n := 80) rfl rfl ?_
              refine Go.iconst C X at_80 (n := 81) rfl (v := (3 : Int32)) rfl ?_
              refine Go.icmp_lt C X at_81 (n1 := 97) (n2 := 84) (by decide) (by decide) rfl (fun hc81 => ?_) (fun hc81 => ?_)
              · refine Go.iload C X at_97 (n := 99) rfl rfl ?_
                refine Go.iconst C X at_99 (n := 100) rfl (v := (1 : Int32)) rfl ?_
                refine Go.icmp_lt C X at_100 (n1 := 109) (n2 := 103) (by decide) (by decide) rfl (fun hc100 => ?_) (fun hc100 => ?_)
                · refine Go.iload C X at_109 (n := 111) rfl rfl ?_
                  refine Go.iconst C X at_111 (n := 112) rfl (v := (2 : Int32)) rfl ?_
                  refine Go.icmp_lt C X at_112 (n1 := 121) (n2 := 115) (by decide) (by decide) rfl (fun hc112 => ?_) (fun hc112 => ?_)
                  · refine Go.iload C X at_121 (n := 123) rfl rfl ?_
                    refine Go.iconst C X at_123 (n := 124) rfl (v := (3 : Int32)) rfl ?_
                    refine Go.icmp_lt C X at_124 (n1 := 133) (n2 := 127) (by decide) (by decide) rfl (fun hc124 => ?_) (fun hc124 => ?_)
                    · refine Go.iload C X at_133 (n := 135) rfl rfl ?_
                      refine Go.iload C X at_135 (n := 137) rfl rfl ?_
                      refine Go.icmp_ne C X at_137 (n1 := 144) (n2 := 140) (by decide) (by decide) rfl (fun hc137 => ?_) (fun hc137 => ?_)
                      · exact absurd hc137 (by decide)
                      · refine Go.iconst C X at_140 (n := 141) rfl (v := (1 : Int32)) rfl ?_
                        refine Go.goto C X at_141 (n := 145) (by decide) (by decide) ?_
                        refine Go.istore C X at_145 (n := 147) rfl (l' := #[.val (.int p0), .val (.int p1), .val (.int p2), .val (.int p3), .val (.int p4), .val (.int p5), .val (.ref a), .val (.int (1 : Int32)), .val (.int (0 : Int32)), .val (.int (0 : Int32)), .val (.int (1 : Int32))]) rfl ?_
                        refine Go.iload C X at_147 (n := 149) rfl rfl ?_
                        refine Go.if0_eq C X at_149 (n1 := 166) (n2 := 152) (by decide) (by decide) rfl (fun hc149 => ?_) (fun hc149 => ?_)
                        · exact absurd hc149 (by decide)
                        · refine Go.aload C X at_152 (n := 154) rfl rfl rfl ?_
                          have E_a := Q.exa
                          refine Go.virt C X eT (argsL := []) (rest := []) (a := a) (rm3 l Z a0 hw n0 _ a (0 : Int32) Q.size) (wd hw 21 rfl) (wd hw 22 rfl) (notFace_of_selects (args := #[]) (mvT C.hZ (wd hw 24 rfl))) (wd hw 24 rfl) (wd hw 23 rfl) (wd hw 2 rfl) (wd hw 25 rfl) (by decide) E_a (lenOf pd_5 rfl) rfl at_154 (n := 157) rfl rfl (by decide) (W := 0) rfl (by decide) (by decide) (by decide) ?_
                          clear X eT
                          intro T h' v L X eT hQ
                          obtain ⟨rfl, rfl, hE⟩ := hQ
                          replace hE := hE.symm
                          subst hE
                          replace N := N.app (Fr.nil n0)
                          show Go p e below _ (T.setTop (mkF m 157 #[.val (.int p0), .val (.int p1), .val (.int p2), .val (.int p3), .val (.int p4), .val (.int p5), .val (.ref a), .val (.int (1 : Int32)), .val (.int (0 : Int32)), .val (.int (0 : Int32)), .val (.int (1 : Int32))] [(.int (1 : Int32))]))
                          refine Go.iload C X at_157 (n := 159) rfl rfl ?_
                          refine Go.icmp_ne C X at_159 (n1 := 166) (n2 := 162) (by decide) (by decide) rfl (fun hc159 => ?_) (fun hc159 => ?_)
                          · exact absurd hc159 (by decide)
                          · refine Go.iconst C X at_162 (n := 163) rfl (v := (1 : Int32)) rfl ?_
                            refine Go.goto C X at_163 (n := 167) (by decide) (by decide) ?_
                            refine Go.istore C X at_167 (n := 169) rfl (l' := #[.val (.int p0), .val (.int p1), .val (.int p2), .val (.int p3), .val (.int p4), .val (.int p5), .val (.ref a), .val (.int (1 : Int32)), .val (.int (0 : Int32)), .val (.int (0 : Int32)), .val (.int (1 : Int32))]) rfl ?_
                            refine Go.iload C X at_169 (n := 171) rfl rfl ?_
                            refine Go.iconst C X at_171 (n := 172) rfl (v := (1 : Int32)) rfl ?_
                            refine Go.iand C X at_172 (n := 173) rfl ?_
                            refine Go.if0_eq C X at_173 (n1 := 201) (n2 := 176) (by decide) (by decide) rfl (fun hc173 => ?_) (fun hc173 => ?_)
                            · refine Go.iload C X at_201 (n := 203) rfl rfl ?_
                              refine Go.retN C X eT (Or.inl rfl) (w := (1 : Int32)) (by decide) at_203 (by decide) (by decide) ?_
                              exact ⟨rfl, N⟩
                            · refine Go.aload C X at_176 (n := 178) rfl rfl rfl ?_
                              have E_a := Q.exa
                              refine Go.virt C X eT (argsL := []) (rest := []) (a := a) (rm4 l Z a0 hw n0 _ a _ _ O Q) (wd hw 28 rfl) (wd hw 29 rfl) (notFace_of_selects (args := #[]) (mvT C.hZ (wd hw 31 rfl))) (wd hw 31 rfl) (wd hw 30 rfl) (wd hw 2 rfl) (wd hw 32 rfl) (by decide) E_a (lenOf pd_4 rfl) rfl at_178 (n := 181) rfl rfl (by decide) (W := 0) rfl (by decide) (by decide) (by decide) ?_
                              clear X eT
                              intro T h v L X eT hQ
                              obtain ⟨rfl, Nq, KK, O, Q⟩ := hQ
                              replace N := N.app Nq
                              show Go p e below _ (T.setTop (mkF m 181 #[.val (.int p0), .val (.int p1), .val (.int p2), .val (.int p3), .val (.int p4), .val (.int p5), .val (.ref a), .val (.int (1 : Int32)), .val (.int (0 : Int32)), .val (.int (0 : Int32)), .val (.int (1 : Int32))] []))
                              refine Go.iload C X at_181 (n := 183) rfl rfl ?_
                              refine Go.if0_eq C X at_183 (n1 := 198) (n2 := 186) (by decide) (by decide) rfl (fun hc183 => ?_) (fun hc183 => ?_)
                              · exact absurd hc183 (by decide)
                              · refine Go.aload C X at_186 (n := 188) rfl rfl rfl ?_
                                have E_a := Q.exa
                                refine Go.virt C X eT (argsL := []) (rest := []) (a := a) (rm3 l Z a0 hw n0 _ a (0 : Int32) Q.size) (wd hw 21 rfl) (wd hw 22 rfl) (notFace_of_selects (args := #[]) (mvT C.hZ (wd hw 24 rfl))) (wd hw 24 rfl) (wd hw 23 rfl) (wd hw 2 rfl) (wd hw 25 rfl) (by decide) E_a (lenOf pd_5 rfl) rfl at_188 (n := 191) rfl rfl (by decide) (W := 0) rfl (by decide) (by decide) (by decide) ?_
                                clear X eT
                                intro T h' v L X eT hQ
                                obtain ⟨rfl, rfl, hE⟩ := hQ
                                replace hE := hE.symm
                                subst hE
                                replace N := N.app (Fr.nil n0)
                                show Go p e below _ (T.setTop (mkF m 191 #[.val (.int p0), .val (.int p1), .val (.int p2), .val (.int p3), .val (.int p4), .val (.int p5), .val (.ref a), .val (.int (1 : Int32)), .val (.int (0 : Int32)), .val (.int (0 : Int32)), .val (.int (1 : Int32))] [(.int (1 : Int32))]))
                                refine Go.if0_eq C X at_191 (n1 := 198) (n2 := 194) (by decide) (by decide) rfl (fun hc191 => ?_) (fun hc191 => ?_)
                                · exact absurd hc191 (by decide)
                                · refine Go.iconst C X at_194 (n := 195) rfl (v := (1 : Int32)) rfl ?_
                                  refine Go.goto C X at_195 (n := 199) (by decide) (by decide) ?_
                                  refine Go.istore C X at_199 (n := 201) rfl (l' := #[.val (.int p0), .val (.int p1), .val (.int p2), .val (.int p3), .val (.int p4), .val (.int p5), .val (.ref a), .val (.int (1 : Int32)), .val (.int (0 : Int32)), .val (.int (0 : Int32)), .val (.int (1 : Int32))]) rfl ?_
                                  refine Go.iload C X at_201 (n := 203) rfl rfl ?_
                                  refine Go.retN C X eT (Or.inl rfl) (w := (1 : Int32)) (by decide) at_203 (by decide) (by decide) ?_
                                  exact ⟨rfl, N⟩
                    · exact absurd hc124 (by decide)
                  · exact absurd hc112 (by decide)
                · exact absurd hc100 (by decide)
              · exact absurd hc81 (by decide)
            · exact absurd hc65 (by decide)
          · exact absurd hc49 (by decide)
      · show Go p e below _ (T.setTop (mkF m 33 #[.val (.int p0), .val (.int p1), .val (.int p2), .val (.int p3), .val (.int p4), .val (.int p5), .val (.ref a), .val (.int (1 : Int32)), .val (.int (0 : Int32)), .unset, .unset] [(.int (3 : Int32))]))
        refine Go.istore C X at_33 (n := 35) rfl (l' := #[.val (.int p0), .val (.int p1), .val (.int p2), .val (.int p3), .val (.int p4), .val (.int p5), .val (.ref a), .val (.int (1 : Int32)), .val (.int (0 : Int32)), .val (.int (3 : Int32)), .unset]) rfl ?_
        refine Go.iload C X at_35 (n := 37) rfl rfl ?_
        refine Go.iload C X at_37 (n := 39) rfl rfl ?_
        refine Go.icmp_le C X at_39 (n1 := 46) (n2 := 42) (by decide) (by decide) rfl (fun hc39 => ?_) (fun hc39 => ?_)
        · exact absurd hc39 (by decide)
        · refine Go.iload C X at_42 (n := 44) rfl rfl ?_
          refine Go.istore C X at_44 (n := 46) rfl (l' := #[.val (.int p0), .val (.int p1), .val (.int p2), .val (.int p3), .val (.int p4), .val (.int p5), .val (.ref a), .val (.int (1 : Int32)), .val (.int (0 : Int32)), .val (.int (0 : Int32)), .unset]) rfl ?_
          refine Go.iload C X at_46 (n := 48) rfl rfl ?_
          refine Go.iconst C X at_48 (n := 49) rfl (v := (1 : Int32)) rfl ?_
          refine Go.icmp_lt C X at_49 (n1 := 62) (n2 := 52) (by decide) (by decide) rfl (fun hc49 => ?_) (fun hc49 => ?_)
          · refine Go.iload C X at_62 (n := 64) rfl rfl ?_
            refine Go.iconst C X at_64 (n := 65) rfl (v := (2 : Int32)) rfl ?_
            refine Go.icmp_lt C X at_65 (n1 := 78) (n2 := 68) (by decide) (by decide) rfl (fun hc65 => ?_) (fun hc65 => ?_)
            · refine Go.iload C X at_78 (n := 80) rfl rfl ?_
              refine Go.iconst C X at_80 (n := 81) rfl (v := (3 : Int32)) rfl ?_
              refine Go.icmp_lt C X at_81 (n1 := 97) (n2 := 84) (by decide) (by decide) rfl (fun hc81 => ?_) (fun hc81 => ?_)
              · refine Go.iload C X at_97 (n := 99) rfl rfl ?_
                refine Go.iconst C X at_99 (n := 100) rfl (v := (1 : Int32)) rfl ?_
                refine Go.icmp_lt C X at_100 (n1 := 109) (n2 := 103) (by decide) (by decide) rfl (fun hc100 => ?_) (fun hc100 => ?_)
                · refine Go.iload C X at_109 (n := 111) rfl rfl ?_
                  refine Go.iconst C X at_111 (n := 112) rfl (v := (2 : Int32)) rfl ?_
                  refine Go.icmp_lt C X at_112 (n1 := 121) (n2 := 115) (by decide) (by decide) rfl (fun hc112 => ?_) (fun hc112 => ?_)
                  · refine Go.iload C X at_121 (n := 123) rfl rfl ?_
                    refine Go.iconst C X at_123 (n := 124) rfl (v := (3 : Int32)) rfl ?_
                    refine Go.icmp_lt C X at_124 (n1 := 133) (n2 := 127) (by decide) (by decide) rfl (fun hc124 => ?_) (fun hc124 => ?_)
                    · refine Go.iload C X at_133 (n := 135) rfl rfl ?_
                      refine Go.iload C X at_135 (n := 137) rfl rfl ?_
                      refine Go.icmp_ne C X at_137 (n1 := 144) (n2 := 140) (by decide) (by decide) rfl (fun hc137 => ?_) (fun hc137 => ?_)
                      · exact absurd hc137 (by decide)
                      · refine Go.iconst C X at_140 (n := 141) rfl (v := (1 : Int32)) rfl ?_
                        refine Go.goto C X at_141 (n := 145) (by decide) (by decide) ?_
                        refine Go.istore C X at_145 (n := 147) rfl (l' := #[.val (.int p0), .val (.int p1), .val (.int p2), .val (.int p3), .val (.int p4), .val (.int p5), .val (.ref a), .val (.int (1 : Int32)), .val (.int (0 : Int32)), .val (.int (0 : Int32)), .val (.int (1 : Int32))]) rfl ?_
                        refine Go.iload C X at_147 (n := 149) rfl rfl ?_
                        refine Go.if0_eq C X at_149 (n1 := 166) (n2 := 152) (by decide) (by decide) rfl (fun hc149 => ?_) (fun hc149 => ?_)
                        · exact absurd hc149 (by decide)
                        · refine Go.aload C X at_152 (n := 154) rfl rfl rfl ?_
                          have E_a := Q.exa
                          refine Go.virt C X eT (argsL := []) (rest := []) (a := a) (rm3 l Z a0 hw n0 _ a (0 : Int32) Q.size) (wd hw 21 rfl) (wd hw 22 rfl) (notFace_of_selects (args := #[]) (mvT C.hZ (wd hw 24 rfl))) (wd hw 24 rfl) (wd hw 23 rfl) (wd hw 2 rfl) (wd hw 25 rfl) (by decide) E_a (lenOf pd_5 rfl) rfl at_154 (n := 157) rfl rfl (by decide) (W := 0) rfl (by decide) (by decide) (by decide) ?_
                          clear X eT
                          intro T h' v L X eT hQ
                          obtain ⟨rfl, rfl, hE⟩ := hQ
                          replace hE := hE.symm
                          subst hE
                          replace N := N.app (Fr.nil n0)
                          show Go p e below _ (T.setTop (mkF m 157 #[.val (.int p0), .val (.int p1), .val (.int p2), .val (.int p3), .val (.int p4), .val (.int p5), .val (.ref a), .val (.int (1 : Int32)), .val (.int (0 : Int32)), .val (.int (0 : Int32)), .val (.int (1 : Int32))] [(.int (1 : Int32))]))
                          refine Go.iload C X at_157 (n := 159) rfl rfl ?_
                          refine Go.icmp_ne C X at_159 (n1 := 166) (n2 := 162) (by decide) (by decide) rfl (fun hc159 => ?_) (fun hc159 => ?_)
                          · exact absurd hc159 (by decide)
                          · refine Go.iconst C X at_162 (n := 163) rfl (v := (1 : Int32)) rfl ?_
                            refine Go.goto C X at_163 (n := 167) (by decide) (by decide) ?_
                            refine Go.istore C X at_167 (n := 169) rfl (l' := #[.val (.int p0), .val (.int p1), .val (.int p2), .val (.int p3), .val (.int p4), .val (.int p5), .val (.ref a), .val (.int (1 : Int32)), .val (.int (0 : Int32)), .val (.int (0 : Int32)), .val (.int (1 : Int32))]) rfl ?_
                            refine Go.iload C X at_169 (n := 171) rfl rfl ?_
                            refine Go.iconst C X at_171 (n := 172) rfl (v := (1 : Int32)) rfl ?_
                            refine Go.iand C X at_172 (n := 173) rfl ?_
                            refine Go.if0_eq C X at_173 (n1 := 201) (n2 := 176) (by decide) (by decide) rfl (fun hc173 => ?_) (fun hc173 => ?_)
                            · refine Go.iload C X at_201 (n := 203) rfl rfl ?_
                              refine Go.retN C X eT (Or.inl rfl) (w := (1 : Int32)) (by decide) at_203 (by decide) (by decide) ?_
                              exact ⟨rfl, N⟩
                            · refine Go.aload C X at_176 (n := 178) rfl rfl rfl ?_
                              have E_a := Q.exa
                              refine Go.virt C X eT (argsL := []) (rest := []) (a := a) (rm4 l Z a0 hw n0 _ a _ _ O Q) (wd hw 28 rfl) (wd hw 29 rfl) (notFace_of_selects (args := #[]) (mvT C.hZ (wd hw 31 rfl))) (wd hw 31 rfl) (wd hw 30 rfl) (wd hw 2 rfl) (wd hw 32 rfl) (by decide) E_a (lenOf pd_4 rfl) rfl at_178 (n := 181) rfl rfl (by decide) (W := 0) rfl (by decide) (by decide) (by decide) ?_
                              clear X eT
                              intro T h v L X eT hQ
                              obtain ⟨rfl, Nq, KK, O, Q⟩ := hQ
                              replace N := N.app Nq
                              show Go p e below _ (T.setTop (mkF m 181 #[.val (.int p0), .val (.int p1), .val (.int p2), .val (.int p3), .val (.int p4), .val (.int p5), .val (.ref a), .val (.int (1 : Int32)), .val (.int (0 : Int32)), .val (.int (0 : Int32)), .val (.int (1 : Int32))] []))
                              refine Go.iload C X at_181 (n := 183) rfl rfl ?_
                              refine Go.if0_eq C X at_183 (n1 := 198) (n2 := 186) (by decide) (by decide) rfl (fun hc183 => ?_) (fun hc183 => ?_)
                              · exact absurd hc183 (by decide)
                              · refine Go.aload C X at_186 (n := 188) rfl rfl rfl ?_
                                have E_a := Q.exa
                                refine Go.virt C X eT (argsL := []) (rest := []) (a := a) (rm3 l Z a0 hw n0 _ a (0 : Int32) Q.size) (wd hw 21 rfl) (wd hw 22 rfl) (notFace_of_selects (args := #[]) (mvT C.hZ (wd hw 24 rfl))) (wd hw 24 rfl) (wd hw 23 rfl) (wd hw 2 rfl) (wd hw 25 rfl) (by decide) E_a (lenOf pd_5 rfl) rfl at_188 (n := 191) rfl rfl (by decide) (W := 0) rfl (by decide) (by decide) (by decide) ?_
                                clear X eT
                                intro T h' v L X eT hQ
                                obtain ⟨rfl, rfl, hE⟩ := hQ
                                replace hE := hE.symm
                                subst hE
                                replace N := N.app (Fr.nil n0)
                                show Go p e below _ (T.setTop (mkF m 191 #[.val (.int p0), .val (.int p1), .val (.int p2), .val (.int p3), .val (.int p4), .val (.int p5), .val (.ref a), .val (.int (1 : Int32)), .val (.int (0 : Int32)), .val (.int (0 : Int32)), .val (.int (1 : Int32))] [(.int (1 : Int32))]))
                                refine Go.if0_eq C X at_191 (n1 := 198) (n2 := 194) (by decide) (by decide) rfl (fun hc191 => ?_) (fun hc191 => ?_)
                                · exact absurd hc191 (by decide)
                                · refine Go.iconst C X at_194 (n := 195) rfl (v := (1 : Int32)) rfl ?_
                                  refine Go.goto C X at_195 (n := 199) (by decide) (by decide) ?_
                                  refine Go.istore C X at_199 (n := 201) rfl (l' := #[.val (.int p0), .val (.int p1), .val (.int p2), .val (.int p3), .val (.int p4), .val (.int p5), .val (.ref a), .val (.int (1 : Int32)), .val (.int (0 : Int32)), .val (.int (0 : Int32)), .val (.int (1 : Int32))]) rfl ?_
                                  refine Go.iload C X at_201 (n := 203) rfl rfl ?_
                                  refine Go.retN C X eT (Or.inl rfl) (w := (1 : Int32)) (by decide) at_203 (by decide) (by decide) ?_
                                  exact ⟨rfl, N⟩
                    · exact absurd hc124 (by decide)
                  · exact absurd hc112 (by decide)
                · exact absurd hc100 (by decide)
              · exact absurd hc81 (by decide)
            · exact absurd hc65 (by decide)
          · exact absurd hc49 (by decide)
    · exact absurd hc24 (by decide)
  · show Go p e below _ (T.setTop (mkF m 19 #[.val (.int p0), .val (.int p1), .val (.int p2), .val (.int p3), .val (.int p4), .val (.int p5), .val (.ref a), .val (.int (1 : Int32)), .unset, .unset, .unset] [(.int (1 : Int32))]))
    refine Go.istore C X at_19 (n := 21) rfl (l' := #[.val (.int p0), .val (.int p1), .val (.int p2), .val (.int p3), .val (.int p4), .val (.int p5), .val (.ref a), .val (.int (1 : Int32)), .val (.int (1 : Int32)), .unset, .unset]) rfl ?_
    refine Go.iload C X at_21 (n := 23) rfl rfl ?_
    refine Go.iconst C X at_23 (n := 24) rfl (v := (3 : Int32)) rfl ?_
    refine Go.icmp_le C X at_24 (n1 := 30) (n2 := 27) (by decide) (by decide) rfl (fun hc24 => ?_) (fun hc24 => ?_)
    · refine Go.iloadN C X at_30 (n := 31) rfl rfl ?_
      refine Go.iconst C X at_31 (n := 32) rfl (v := (3 : Int32)) rfl ?_
      refine Go.iand C X at_32 (n := 33) rfl ?_
      obtain ⟨u9, qu9⟩ : ∃ z, z = (p1 &&& (3 : Int32)) := ⟨_, rfl⟩
      rw [← qu9]
      have hu9 := own_four (x := u9) (by rw [qu9]; exact own_m3 _)
      clear qu9
      obtain rfl | rfl | rfl | rfl := hu9
      · show Go p e below _ (T.setTop (mkF m 33 #[.val (.int p0), .val (.int p1), .val (.int p2), .val (.int p3), .val (.int p4), .val (.int p5), .val (.ref a), .val (.int (1 : Int32)), .val (.int (1 : Int32)), .unset, .unset] [(.int (0 : Int32))]))
        refine Go.istore C X at_33 (n := 35) rfl (l' := #[.val (.int p0), .val (.int p1), .val (.int p2), .val (.int p3), .val (.int p4), .val (.int p5), .val (.ref a), .val (.int (1 : Int32)), .val (.int (1 : Int32)), .val (.int (0 : Int32)), .unset]) rfl ?_
        refine Go.iload C X at_35 (n := 37) rfl rfl ?_
        refine Go.iload C X at_37 (n := 39) rfl rfl ?_
        refine Go.icmp_le C X at_39 (n1 := 46) (n2 := 42) (by decide) (by decide) rfl (fun hc39 => ?_) (fun hc39 => ?_)
        · refine Go.iload C X at_46 (n := 48) rfl rfl ?_
          refine Go.iconst C X at_48 (n := 49) rfl (v := (1 : Int32)) rfl ?_
          refine Go.icmp_lt C X at_49 (n1 := 62) (n2 := 52) (by decide) (by decide) rfl (fun hc49 => ?_) (fun hc49 => ?_)
          · exact absurd hc49 (by decide)
          · refine Go.aload C X at_52 (n := 54) rfl rfl rfl ?_
            refine Go.iloadN C X at_54 (n := 55) rfl rfl ?_
            refine Go.i2d C X at_55 (n := 56) rfl ?_
            refine Go.dconst0 C X at_56 (n := 57) rfl ?_
            refine Go.iconst C X at_57 (n := 58) rfl (v := (0 : Int32)) rfl ?_
            have E_a := Q.exa
            refine Go.virt C X eT (argsL := [(.double (FP.i2d p2)), (.double FP.dconst0), (.int (0 : Int32))]) (rest := []) (a := a) (add0 l Z a0 hw n0 _ a (FP.i2d p2) FP.dconst0 (0 : Int32) (nn_i2d _) O Q) (wd hw 35 rfl) (wd hw 36 rfl) (notFace_of_selects (args := #[]) (mvT C.hZ (wd hw 38 rfl))) (wd hw 38 rfl) (wd hw 37 rfl) (wd hw 2 rfl) (wd hw 39 rfl) (by decide) E_a (lenOf pd_6 rfl) rfl at_58 (n := 61) rfl rfl (by decide) (W := 0) rfl (by decide) (by decide) (by decide) ?_
            clear X eT
            intro T h v L X eT hQ
            obtain ⟨r58, rfl, Nq, KK, O, Q⟩ := hQ
            replace N := N.app Nq
            show Go p e below _ (T.setTop (mkF m 61 #[.val (.int p0), .val (.int p1), .val (.int p2), .val (.int p3), .val (.int p4), .val (.int p5), .val (.ref a), .val (.int (1 : Int32)), .val (.int (1 : Int32)), .val (.int (0 : Int32)), .unset] [(.int r58)]))
            refine Go.pop C X at_61 (n := 62) rfl rfl ?_
            refine Go.iload C X at_62 (n := 64) rfl rfl ?_
            refine Go.iconst C X at_64 (n := 65) rfl (v := (2 : Int32)) rfl ?_
            refine Go.icmp_lt C X at_65 (n1 := 78) (n2 := 68) (by decide) (by decide) rfl (fun hc65 => ?_) (fun hc65 => ?_)
            · refine Go.iload C X at_78 (n := 80) rfl rfl ?_
              refine Go.iconst C X at_80 (n := 81) rfl (v := (3 : Int32)) rfl ?_
              refine Go.icmp_lt C X at_81 (n1 := 97) (n2 := 84) (by decide) (by decide) rfl (fun hc81 => ?_) (fun hc81 => ?_)
              · refine Go.iload C X at_97 (n := 99) rfl rfl ?_
                refine Go.iconst C X at_99 (n := 100) rfl (v := (1 : Int32)) rfl ?_
                refine Go.icmp_lt C X at_100 (n1 := 109) (n2 := 103) (by decide) (by decide) rfl (fun hc100 => ?_) (fun hc100 => ?_)
                · refine Go.iload C X at_109 (n := 111) rfl rfl ?_
                  refine Go.iconst C X at_111 (n := 112) rfl (v := (2 : Int32)) rfl ?_
                  refine Go.icmp_lt C X at_112 (n1 := 121) (n2 := 115) (by decide) (by decide) rfl (fun hc112 => ?_) (fun hc112 => ?_)
                  · refine Go.iload C X at_121 (n := 123) rfl rfl ?_
                    refine Go.iconst C X at_123 (n := 124) rfl (v := (3 : Int32)) rfl ?_
                    refine Go.icmp_lt C X at_124 (n1 := 133) (n2 := 127) (by decide) (by decide) rfl (fun hc124 => ?_) (fun hc124 => ?_)
                    · refine Go.iload C X at_133 (n := 135) rfl rfl ?_
                      refine Go.iload C X at_135 (n := 137) rfl rfl ?_
                      refine Go.icmp_ne C X at_137 (n1 := 144) (n2 := 140) (by decide) (by decide) rfl (fun hc137 => ?_) (fun hc137 => ?_)
                      · refine Go.iconst C X at_144 (n := 145) rfl (v := (0 : Int32)) rfl ?_
                        refine Go.istore C X at_145 (n := 147) rfl (l' := #[.val (.int p0), .val (.int p1), .val (.int p2), .val (.int p3), .val (.int p4), .val (.int p5), .val (.ref a), .val (.int (1 : Int32)), .val (.int (1 : Int32)), .val (.int (0 : Int32)), .val (.int (0 : Int32))]) rfl ?_
                        refine Go.iload C X at_147 (n := 149) rfl rfl ?_
                        refine Go.if0_eq C X at_149 (n1 := 166) (n2 := 152) (by decide) (by decide) rfl (fun hc149 => ?_) (fun hc149 => ?_)
                        · exact absurd hc149 (by decide)
                        · refine Go.aload C X at_152 (n := 154) rfl rfl rfl ?_
                          have E_a := Q.exa
                          refine Go.virt C X eT (argsL := []) (rest := []) (a := a) (rm3 l Z a0 hw n0 _ a (1 : Int32) Q.size) (wd hw 21 rfl) (wd hw 22 rfl) (notFace_of_selects (args := #[]) (mvT C.hZ (wd hw 24 rfl))) (wd hw 24 rfl) (wd hw 23 rfl) (wd hw 2 rfl) (wd hw 25 rfl) (by decide) E_a (lenOf pd_5 rfl) rfl at_154 (n := 157) rfl rfl (by decide) (W := 0) rfl (by decide) (by decide) (by decide) ?_
                          clear X eT
                          intro T h' v L X eT hQ
                          obtain ⟨rfl, rfl, hE⟩ := hQ
                          replace hE := hE.symm
                          subst hE
                          replace N := N.app (Fr.nil n0)
                          show Go p e below _ (T.setTop (mkF m 157 #[.val (.int p0), .val (.int p1), .val (.int p2), .val (.int p3), .val (.int p4), .val (.int p5), .val (.ref a), .val (.int (1 : Int32)), .val (.int (1 : Int32)), .val (.int (0 : Int32)), .val (.int (0 : Int32))] [(.int (0 : Int32))]))
                          refine Go.iload C X at_157 (n := 159) rfl rfl ?_
                          refine Go.icmp_ne C X at_159 (n1 := 166) (n2 := 162) (by decide) (by decide) rfl (fun hc159 => ?_) (fun hc159 => ?_)
                          · exact absurd hc159 (by decide)
                          · refine Go.iconst C X at_162 (n := 163) rfl (v := (1 : Int32)) rfl ?_
                            refine Go.goto C X at_163 (n := 167) (by decide) (by decide) ?_
                            refine Go.istore C X at_167 (n := 169) rfl (l' := #[.val (.int p0), .val (.int p1), .val (.int p2), .val (.int p3), .val (.int p4), .val (.int p5), .val (.ref a), .val (.int (1 : Int32)), .val (.int (1 : Int32)), .val (.int (0 : Int32)), .val (.int (0 : Int32))]) rfl ?_
                            refine Go.iload C X at_169 (n := 171) rfl rfl ?_
                            refine Go.iconst C X at_171 (n := 172) rfl (v := (1 : Int32)) rfl ?_
                            refine Go.iand C X at_172 (n := 173) rfl ?_
                            refine Go.if0_eq C X at_173 (n1 := 201) (n2 := 176) (by decide) (by decide) rfl (fun hc173 => ?_) (fun hc173 => ?_)
                            · refine Go.iload C X at_201 (n := 203) rfl rfl ?_
                              refine Go.retN C X eT (Or.inl rfl) (w := (1 : Int32)) (by decide) at_203 (by decide) (by decide) ?_
                              exact ⟨rfl, N⟩
                            · refine Go.aload C X at_176 (n := 178) rfl rfl rfl ?_
                              have E_a := Q.exa
                              refine Go.virt C X eT (argsL := []) (rest := []) (a := a) (rm4 l Z a0 hw n0 _ a _ _ O Q) (wd hw 28 rfl) (wd hw 29 rfl) (notFace_of_selects (args := #[]) (mvT C.hZ (wd hw 31 rfl))) (wd hw 31 rfl) (wd hw 30 rfl) (wd hw 2 rfl) (wd hw 32 rfl) (by decide) E_a (lenOf pd_4 rfl) rfl at_178 (n := 181) rfl rfl (by decide) (W := 0) rfl (by decide) (by decide) (by decide) ?_
                              clear X eT
                              intro T h v L X eT hQ
                              obtain ⟨rfl, Nq, KK, O, Q⟩ := hQ
                              replace N := N.app Nq
                              show Go p e below _ (T.setTop (mkF m 181 #[.val (.int p0), .val (.int p1), .val (.int p2), .val (.int p3), .val (.int p4), .val (.int p5), .val (.ref a), .val (.int (1 : Int32)), .val (.int (1 : Int32)), .val (.int (0 : Int32)), .val (.int (0 : Int32))] []))
                              refine Go.iload C X at_181 (n := 183) rfl rfl ?_
                              refine Go.if0_eq C X at_183 (n1 := 198) (n2 := 186) (by decide) (by decide) rfl (fun hc183 => ?_) (fun hc183 => ?_)
                              · exact absurd hc183 (by decide)
                              · refine Go.aload C X at_186 (n := 188) rfl rfl rfl ?_
                                have E_a := Q.exa
                                refine Go.virt C X eT (argsL := []) (rest := []) (a := a) (rm3 l Z a0 hw n0 _ a (0 : Int32) Q.size) (wd hw 21 rfl) (wd hw 22 rfl) (notFace_of_selects (args := #[]) (mvT C.hZ (wd hw 24 rfl))) (wd hw 24 rfl) (wd hw 23 rfl) (wd hw 2 rfl) (wd hw 25 rfl) (by decide) E_a (lenOf pd_5 rfl) rfl at_188 (n := 191) rfl rfl (by decide) (W := 0) rfl (by decide) (by decide) (by decide) ?_
                                clear X eT
                                intro T h' v L X eT hQ
                                obtain ⟨rfl, rfl, hE⟩ := hQ
                                replace hE := hE.symm
                                subst hE
                                replace N := N.app (Fr.nil n0)
                                show Go p e below _ (T.setTop (mkF m 191 #[.val (.int p0), .val (.int p1), .val (.int p2), .val (.int p3), .val (.int p4), .val (.int p5), .val (.ref a), .val (.int (1 : Int32)), .val (.int (1 : Int32)), .val (.int (0 : Int32)), .val (.int (0 : Int32))] [(.int (1 : Int32))]))
                                refine Go.if0_eq C X at_191 (n1 := 198) (n2 := 194) (by decide) (by decide) rfl (fun hc191 => ?_) (fun hc191 => ?_)
                                · exact absurd hc191 (by decide)
                                · refine Go.iconst C X at_194 (n := 195) rfl (v := (1 : Int32)) rfl ?_
                                  refine Go.goto C X at_195 (n := 199) (by decide) (by decide) ?_
                                  refine Go.istore C X at_199 (n := 201) rfl (l' := #[.val (.int p0), .val (.int p1), .val (.int p2), .val (.int p3), .val (.int p4), .val (.int p5), .val (.ref a), .val (.int (1 : Int32)), .val (.int (1 : Int32)), .val (.int (0 : Int32)), .val (.int (0 : Int32))]) rfl ?_
                                  refine Go.iload C X at_201 (n := 203) rfl rfl ?_
                                  refine Go.retN C X eT (Or.inl rfl) (w := (1 : Int32)) (by decide) at_203 (by decide) (by decide) ?_
                                  exact ⟨rfl, N⟩
                      · exact absurd hc137 (by decide)
                    · exact absurd hc124 (by decide)
                  · exact absurd hc112 (by decide)
                · exact absurd hc100 (by decide)
              · exact absurd hc81 (by decide)
            · exact absurd hc65 (by decide)
        · exact absurd hc39 (by decide)
      · show Go p e below _ (T.setTop (mkF m 33 #[.val (.int p0), .val (.int p1), .val (.int p2), .val (.int p3), .val (.int p4), .val (.int p5), .val (.ref a), .val (.int (1 : Int32)), .val (.int (1 : Int32)), .unset, .unset] [(.int (1 : Int32))]))
        refine Go.istore C X at_33 (n := 35) rfl (l' := #[.val (.int p0), .val (.int p1), .val (.int p2), .val (.int p3), .val (.int p4), .val (.int p5), .val (.ref a), .val (.int (1 : Int32)), .val (.int (1 : Int32)), .val (.int (1 : Int32)), .unset]) rfl ?_
        refine Go.iload C X at_35 (n := 37) rfl rfl ?_
        refine Go.iload C X at_37 (n := 39) rfl rfl ?_
        refine Go.icmp_le C X at_39 (n1 := 46) (n2 := 42) (by decide) (by decide) rfl (fun hc39 => ?_) (fun hc39 => ?_)
        · refine Go.iload C X at_46 (n := 48) rfl rfl ?_
          refine Go.iconst C X at_48 (n := 49) rfl (v := (1 : Int32)) rfl ?_
          refine Go.icmp_lt C X at_49 (n1 := 62) (n2 := 52) (by decide) (by decide) rfl (fun hc49 => ?_) (fun hc49 => ?_)
          · exact absurd hc49 (by decide)
          · refine Go.aload C X at_52 (n := 54) rfl rfl rfl ?_
            refine Go.iloadN C X at_54 (n := 55) rfl rfl ?_
            refine Go.i2d C X at_55 (n := 56) rfl ?_
            refine Go.dconst0 C X at_56 (n := 57) rfl ?_
            refine Go.iconst C X at_57 (n := 58) rfl (v := (0 : Int32)) rfl ?_
            have E_a := Q.exa
            refine Go.virt C X eT (argsL := [(.double (FP.i2d p2)), (.double FP.dconst0), (.int (0 : Int32))]) (rest := []) (a := a) (add0 l Z a0 hw n0 _ a (FP.i2d p2) FP.dconst0 (0 : Int32) (nn_i2d _) O Q) (wd hw 35 rfl) (wd hw 36 rfl) (notFace_of_selects (args := #[]) (mvT C.hZ (wd hw 38 rfl))) (wd hw 38 rfl) (wd hw 37 rfl) (wd hw 2 rfl) (wd hw 39 rfl) (by decide) E_a (lenOf pd_6 rfl) rfl at_58 (n := 61) rfl rfl (by decide) (W := 0) rfl (by decide) (by decide) (by decide) ?_
            clear X eT
            intro T h v L X eT hQ
            obtain ⟨r58, rfl, Nq, KK, O, Q⟩ := hQ
            replace N := N.app Nq
            show Go p e below _ (T.setTop (mkF m 61 #[.val (.int p0), .val (.int p1), .val (.int p2), .val (.int p3), .val (.int p4), .val (.int p5), .val (.ref a), .val (.int (1 : Int32)), .val (.int (1 : Int32)), .val (.int (1 : Int32)), .unset] [(.int r58)]))
            refine Go.pop C X at_61 (n := 62) rfl rfl ?_
            refine Go.iload C X at_62 (n := 64) rfl rfl ?_
            refine Go.iconst C X at_64 (n := 65) rfl (v := (2 : Int32)) rfl ?_
            refine Go.icmp_lt C X at_65 (n1 := 78) (n2 := 68) (by decide) (by decide) rfl (fun hc65 => ?_) (fun hc65 => ?_)
            · refine Go.iload C X at_78 (n := 80) rfl rfl ?_
              refine Go.iconst C X at_80 (n := 81) rfl (v := (3 : Int32)) rfl ?_
              refine Go.icmp_lt C X at_81 (n1 := 97) (n2 := 84) (by decide) (by decide) rfl (fun hc81 => ?_) (fun hc81 => ?_)
              · refine Go.iload C X at_97 (n := 99) rfl rfl ?_
                refine Go.iconst C X at_99 (n := 100) rfl (v := (1 : Int32)) rfl ?_
                refine Go.icmp_lt C X at_100 (n1 := 109) (n2 := 103) (by decide) (by decide) rfl (fun hc100 => ?_) (fun hc100 => ?_)
                · exact absurd hc100 (by decide)
                · refine Go.aload C X at_103 (n := 105) rfl rfl rfl ?_
                  have E_a := Q.exa
                  refine Go.virt C X eT (argsL := []) (rest := []) (a := a) (poll1 l Z a0 hw n0 _ a _ O Q) (wd hw 40 rfl) (wd hw 41 rfl) (notFace_of_selects (args := #[]) (mvT C.hZ (wd hw 43 rfl))) (wd hw 43 rfl) (wd hw 42 rfl) (wd hw 2 rfl) (wd hw 44 rfl) (by decide) E_a (lenOf pd_7 rfl) rfl at_105 (n := 108) rfl rfl (by decide) (W := 0) rfl (by decide) (by decide) (by decide) ?_
                  clear X eT
                  intro T h v L X eT hQ
                  obtain ⟨r105, rfl, Nq, KK, O, Q⟩ := hQ
                  replace N := N.app Nq
                  show Go p e below _ (T.setTop (mkF m 108 #[.val (.int p0), .val (.int p1), .val (.int p2), .val (.int p3), .val (.int p4), .val (.int p5), .val (.ref a), .val (.int (1 : Int32)), .val (.int (1 : Int32)), .val (.int (1 : Int32)), .unset] [(.int r105)]))
                  refine Go.pop C X at_108 (n := 109) rfl rfl ?_
                  refine Go.iload C X at_109 (n := 111) rfl rfl ?_
                  refine Go.iconst C X at_111 (n := 112) rfl (v := (2 : Int32)) rfl ?_
                  refine Go.icmp_lt C X at_112 (n1 := 121) (n2 := 115) (by decide) (by decide) rfl (fun hc112 => ?_) (fun hc112 => ?_)
                  · refine Go.iload C X at_121 (n := 123) rfl rfl ?_
                    refine Go.iconst C X at_123 (n := 124) rfl (v := (3 : Int32)) rfl ?_
                    refine Go.icmp_lt C X at_124 (n1 := 133) (n2 := 127) (by decide) (by decide) rfl (fun hc124 => ?_) (fun hc124 => ?_)
                    · refine Go.iload C X at_133 (n := 135) rfl rfl ?_
                      refine Go.iload C X at_135 (n := 137) rfl rfl ?_
                      refine Go.icmp_ne C X at_137 (n1 := 144) (n2 := 140) (by decide) (by decide) rfl (fun hc137 => ?_) (fun hc137 => ?_)
                      · exact absurd hc137 (by decide)
                      · refine Go.iconst C X at_140 (n := 141) rfl (v := (1 : Int32)) rfl ?_
                        refine Go.goto C X at_141 (n := 145) (by decide) (by decide) ?_
                        refine Go.istore C X at_145 (n := 147) rfl (l' := #[.val (.int p0), .val (.int p1), .val (.int p2), .val (.int p3), .val (.int p4), .val (.int p5), .val (.ref a), .val (.int (1 : Int32)), .val (.int (1 : Int32)), .val (.int (1 : Int32)), .val (.int (1 : Int32))]) rfl ?_
                        refine Go.iload C X at_147 (n := 149) rfl rfl ?_
                        refine Go.if0_eq C X at_149 (n1 := 166) (n2 := 152) (by decide) (by decide) rfl (fun hc149 => ?_) (fun hc149 => ?_)
                        · exact absurd hc149 (by decide)
                        · refine Go.aload C X at_152 (n := 154) rfl rfl rfl ?_
                          have E_a := Q.exa
                          refine Go.virt C X eT (argsL := []) (rest := []) (a := a) (rm3 l Z a0 hw n0 _ a (0 : Int32) Q.size) (wd hw 21 rfl) (wd hw 22 rfl) (notFace_of_selects (args := #[]) (mvT C.hZ (wd hw 24 rfl))) (wd hw 24 rfl) (wd hw 23 rfl) (wd hw 2 rfl) (wd hw 25 rfl) (by decide) E_a (lenOf pd_5 rfl) rfl at_154 (n := 157) rfl rfl (by decide) (W := 0) rfl (by decide) (by decide) (by decide) ?_
                          clear X eT
                          intro T h' v L X eT hQ
                          obtain ⟨rfl, rfl, hE⟩ := hQ
                          replace hE := hE.symm
                          subst hE
                          replace N := N.app (Fr.nil n0)
                          show Go p e below _ (T.setTop (mkF m 157 #[.val (.int p0), .val (.int p1), .val (.int p2), .val (.int p3), .val (.int p4), .val (.int p5), .val (.ref a), .val (.int (1 : Int32)), .val (.int (1 : Int32)), .val (.int (1 : Int32)), .val (.int (1 : Int32))] [(.int (1 : Int32))]))
                          refine Go.iload C X at_157 (n := 159) rfl rfl ?_
                          refine Go.icmp_ne C X at_159 (n1 := 166) (n2 := 162) (by decide) (by decide) rfl (fun hc159 => ?_) (fun hc159 => ?_)
                          · exact absurd hc159 (by decide)
                          · refine Go.iconst C X at_162 (n := 163) rfl (v := (1 : Int32)) rfl ?_
                            refine Go.goto C X at_163 (n := 167) (by decide) (by decide) ?_
                            refine Go.istore C X at_167 (n := 169) rfl (l' := #[.val (.int p0), .val (.int p1), .val (.int p2), .val (.int p3), .val (.int p4), .val (.int p5), .val (.ref a), .val (.int (1 : Int32)), .val (.int (1 : Int32)), .val (.int (1 : Int32)), .val (.int (1 : Int32))]) rfl ?_
                            refine Go.iload C X at_169 (n := 171) rfl rfl ?_
                            refine Go.iconst C X at_171 (n := 172) rfl (v := (1 : Int32)) rfl ?_
                            refine Go.iand C X at_172 (n := 173) rfl ?_
                            refine Go.if0_eq C X at_173 (n1 := 201) (n2 := 176) (by decide) (by decide) rfl (fun hc173 => ?_) (fun hc173 => ?_)
                            · refine Go.iload C X at_201 (n := 203) rfl rfl ?_
                              refine Go.retN C X eT (Or.inl rfl) (w := (1 : Int32)) (by decide) at_203 (by decide) (by decide) ?_
                              exact ⟨rfl, N⟩
                            · refine Go.aload C X at_176 (n := 178) rfl rfl rfl ?_
                              have E_a := Q.exa
                              refine Go.virt C X eT (argsL := []) (rest := []) (a := a) (rm4 l Z a0 hw n0 _ a _ _ O Q) (wd hw 28 rfl) (wd hw 29 rfl) (notFace_of_selects (args := #[]) (mvT C.hZ (wd hw 31 rfl))) (wd hw 31 rfl) (wd hw 30 rfl) (wd hw 2 rfl) (wd hw 32 rfl) (by decide) E_a (lenOf pd_4 rfl) rfl at_178 (n := 181) rfl rfl (by decide) (W := 0) rfl (by decide) (by decide) (by decide) ?_
                              clear X eT
                              intro T h v L X eT hQ
                              obtain ⟨rfl, Nq, KK, O, Q⟩ := hQ
                              replace N := N.app Nq
                              show Go p e below _ (T.setTop (mkF m 181 #[.val (.int p0), .val (.int p1), .val (.int p2), .val (.int p3), .val (.int p4), .val (.int p5), .val (.ref a), .val (.int (1 : Int32)), .val (.int (1 : Int32)), .val (.int (1 : Int32)), .val (.int (1 : Int32))] []))
                              refine Go.iload C X at_181 (n := 183) rfl rfl ?_
                              refine Go.if0_eq C X at_183 (n1 := 198) (n2 := 186) (by decide) (by decide) rfl (fun hc183 => ?_) (fun hc183 => ?_)
                              · exact absurd hc183 (by decide)
                              · refine Go.aload C X at_186 (n := 188) rfl rfl rfl ?_
                                have E_a := Q.exa
                                refine Go.virt C X eT (argsL := []) (rest := []) (a := a) (rm3 l Z a0 hw n0 _ a (0 : Int32) Q.size) (wd hw 21 rfl) (wd hw 22 rfl) (notFace_of_selects (args := #[]) (mvT C.hZ (wd hw 24 rfl))) (wd hw 24 rfl) (wd hw 23 rfl) (wd hw 2 rfl) (wd hw 25 rfl) (by decide) E_a (lenOf pd_5 rfl) rfl at_188 (n := 191) rfl rfl (by decide) (W := 0) rfl (by decide) (by decide) (by decide) ?_
                                clear X eT
                                intro T h' v L X eT hQ
                                obtain ⟨rfl, rfl, hE⟩ := hQ
                                replace hE := hE.symm
                                subst hE
                                replace N := N.app (Fr.nil n0)
                                show Go p e below _ (T.setTop (mkF m 191 #[.val (.int p0), .val (.int p1), .val (.int p2), .val (.int p3), .val (.int p4), .val (.int p5), .val (.ref a), .val (.int (1 : Int32)), .val (.int (1 : Int32)), .val (.int (1 : Int32)), .val (.int (1 : Int32))] [(.int (1 : Int32))]))
                                refine Go.if0_eq C X at_191 (n1 := 198) (n2 := 194) (by decide) (by decide) rfl (fun hc191 => ?_) (fun hc191 => ?_)
                                · exact absurd hc191 (by decide)
                                · refine Go.iconst C X at_194 (n := 195) rfl (v := (1 : Int32)) rfl ?_
                                  refine Go.goto C X at_195 (n := 199) (by decide) (by decide) ?_
                                  refine Go.istore C X at_199 (n := 201) rfl (l' := #[.val (.int p0), .val (.int p1), .val (.int p2), .val (.int p3), .val (.int p4), .val (.int p5), .val (.ref a), .val (.int (1 : Int32)), .val (.int (1 : Int32)), .val (.int (1 : Int32)), .val (.int (1 : Int32))]) rfl ?_
                                  refine Go.iload C X at_201 (n := 203) rfl rfl ?_
                                  refine Go.retN C X eT (Or.inl rfl) (w := (1 : Int32)) (by decide) at_203 (by decide) (by decide) ?_
                                  exact ⟨rfl, N⟩
                    · exact absurd hc124 (by decide)
                  · exact absurd hc112 (by decide)
              · exact absurd hc81 (by decide)
            · exact absurd hc65 (by decide)
        · exact absurd hc39 (by decide)
      · show Go p e below _ (T.setTop (mkF m 33 #[.val (.int p0), .val (.int p1), .val (.int p2), .val (.int p3), .val (.int p4), .val (.int p5), .val (.ref a), .val (.int (1 : Int32)), .val (.int (1 : Int32)), .unset, .unset] [(.int (2 : Int32))]))
        refine Go.istore C X at_33 (n := 35) rfl (l' := #[.val (.int p0), .val (.int p1), .val (.int p2), .val (.int p3), .val (.int p4), .val (.int p5), .val (.ref a), .val (.int (1 : Int32)), .val (.int (1 : Int32)), .val (.int (2 : Int32)), .unset]) rfl ?_
        refine Go.iload C X at_35 (n := 37) rfl rfl ?_
        refine Go.iload C X at_37 (n := 39) rfl rfl ?_
        refine Go.icmp_le C X at_39 (n1 := 46) (n2 := 42) (by decide) (by decide) rfl (fun hc39 => ?_) (fun hc39 => ?_)
        · exact absurd hc39 (by decide)
        · refine Go.iload C X at_42 (n := 44) rfl rfl ?_
          refine Go.istore C X at_44 (n := 46) rfl (l' := #[.val (.int p0), .val (.int p1), .val (.int p2), .val (.int p3), .val (.int p4), .val (.int p5), .val (.ref a), .val (.int (1 : Int32)), .val (.int (1 : Int32)), .val (.int (1 : Int32)), .unset]) rfl ?_
          refine Go.iload C X at_46 (n := 48) rfl rfl ?_
          refine Go.iconst C X at_48 (n := 49) rfl (v := (1 : Int32)) rfl ?_
          refine Go.icmp_lt C X at_49 (n1 := 62) (n2 := 52) (by decide) (by decide) rfl (fun hc49 => ?_) (fun hc49 => ?_)
          · exact absurd hc49 (by decide)
          · refine Go.aload C X at_52 (n := 54) rfl rfl rfl ?_
            refine Go.iloadN C X at_54 (n := 55) rfl rfl ?_
            refine Go.i2d C X at_55 (n := 56) rfl ?_
            refine Go.dconst0 C X at_56 (n := 57) rfl ?_
            refine Go.iconst C X at_57 (n := 58) rfl (v := (0 : Int32)) rfl ?_
            have E_a := Q.exa
            refine Go.virt C X eT (argsL := [(.double (FP.i2d p2)), (.double FP.dconst0), (.int (0 : Int32))]) (rest := []) (a := a) (add0 l Z a0 hw n0 _ a (FP.i2d p2) FP.dconst0 (0 : Int32) (nn_i2d _) O Q) (wd hw 35 rfl) (wd hw 36 rfl) (notFace_of_selects (args := #[]) (mvT C.hZ (wd hw 38 rfl))) (wd hw 38 rfl) (wd hw 37 rfl) (wd hw 2 rfl) (wd hw 39 rfl) (by decide) E_a (lenOf pd_6 rfl) rfl at_58 (n := 61) rfl rfl (by decide) (W := 0) rfl (by decide) (by decide) (by decide) ?_
            clear X eT
            intro T h v L X eT hQ
            obtain ⟨r58, rfl, Nq, KK, O, Q⟩ := hQ
            replace N := N.app Nq
            show Go p e below _ (T.setTop (mkF m 61 #[.val (.int p0), .val (.int p1), .val (.int p2), .val (.int p3), .val (.int p4), .val (.int p5), .val (.ref a), .val (.int (1 : Int32)), .val (.int (1 : Int32)), .val (.int (1 : Int32)), .unset] [(.int r58)]))
            refine Go.pop C X at_61 (n := 62) rfl rfl ?_
            refine Go.iload C X at_62 (n := 64) rfl rfl ?_
            refine Go.iconst C X at_64 (n := 65) rfl (v := (2 : Int32)) rfl ?_
            refine Go.icmp_lt C X at_65 (n1 := 78) (n2 := 68) (by decide) (by decide) rfl (fun hc65 => ?_) (fun hc65 => ?_)
            · refine Go.iload C X at_78 (n := 80) rfl rfl ?_
              refine Go.iconst C X at_80 (n := 81) rfl (v := (3 : Int32)) rfl ?_
              refine Go.icmp_lt C X at_81 (n1 := 97) (n2 := 84) (by decide) (by decide) rfl (fun hc81 => ?_) (fun hc81 => ?_)
              · refine Go.iload C X at_97 (n := 99) rfl rfl ?_
                refine Go.iconst C X at_99 (n := 100) rfl (v := (1 : Int32)) rfl ?_
                refine Go.icmp_lt C X at_100 (n1 := 109) (n2 := 103) (by decide) (by decide) rfl (fun hc100 => ?_) (fun hc100 => ?_)
                · exact absurd hc100 (by decide)
                · refine Go.aload C X at_103 (n := 105) rfl rfl rfl ?_
                  have E_a := Q.exa
                  refine Go.virt C X eT (argsL := []) (rest := []) (a := a) (poll1 l Z a0 hw n0 _ a _ O Q) (wd hw 40 rfl) (wd hw 41 rfl) (notFace_of_selects (args := #[]) (mvT C.hZ (wd hw 43 rfl))) (wd hw 43 rfl) (wd hw 42 rfl) (wd hw 2 rfl) (wd hw 44 rfl) (by decide) E_a (lenOf pd_7 rfl) rfl at_105 (n := 108) rfl rfl (by decide) (W := 0) rfl (by decide) (by decide) (by decide) ?_
                  clear X eT
                  intro T h v L X eT hQ
                  obtain ⟨r105, rfl, Nq, KK, O, Q⟩ := hQ
                  replace N := N.app Nq
                  show Go p e below _ (T.setTop (mkF m 108 #[.val (.int p0), .val (.int p1), .val (.int p2), .val (.int p3), .val (.int p4), .val (.int p5), .val (.ref a), .val (.int (1 : Int32)), .val (.int (1 : Int32)), .val (.int (1 : Int32)), .unset] [(.int r105)]))
                  refine Go.pop C X at_108 (n := 109) rfl rfl ?_
                  refine Go.iload C X at_109 (n := 111) rfl rfl ?_
                  refine Go.iconst C X at_111 (n := 112) rfl (v := (2 : Int32)) rfl ?_
                  refine Go.icmp_lt C X at_112 (n1 := 121) (n2 := 115) (by decide) (by decide) rfl (fun hc112 => ?_) (fun hc112 => ?_)
                  · refine Go.iload C X at_121 (n := 123) rfl rfl ?_
                    refine Go.iconst C X at_123 (n := 124) rfl (v := (3 : Int32)) rfl ?_
                    refine Go.icmp_lt C X at_124 (n1 := 133) (n2 := 127) (by decide) (by decide) rfl (fun hc124 => ?_) (fun hc124 => ?_)
                    · refine Go.iload C X at_133 (n := 135) rfl rfl ?_
                      refine Go.iload C X at_135 (n := 137) rfl rfl ?_
                      refine Go.icmp_ne C X at_137 (n1 := 144) (n2 := 140) (by decide) (by decide) rfl (fun hc137 => ?_) (fun hc137 => ?_)
                      · exact absurd hc137 (by decide)
                      · refine Go.iconst C X at_140 (n := 141) rfl (v := (1 : Int32)) rfl ?_
                        refine Go.goto C X at_141 (n := 145) (by decide) (by decide) ?_
                        refine Go.istore C X at_145 (n := 147) rfl (l' := #[.val (.int p0), .val (.int p1), .val (.int p2), .val (.int p3), .val (.int p4), .val (.int p5), .val (.ref a), .val (.int (1 : Int32)), .val (.int (1 : Int32)), .val (.int (1 : Int32)), .val (.int (1 : Int32))]) rfl ?_
                        refine Go.iload C X at_147 (n := 149) rfl rfl ?_
                        refine Go.if0_eq C X at_149 (n1 := 166) (n2 := 152) (by decide) (by decide) rfl (fun hc149 => ?_) (fun hc149 => ?_)
                        · exact absurd hc149 (by decide)
                        · refine Go.aload C X at_152 (n := 154) rfl rfl rfl ?_
                          have E_a := Q.exa
                          refine Go.virt C X eT (argsL := []) (rest := []) (a := a) (rm3 l Z a0 hw n0 _ a (0 : Int32) Q.size) (wd hw 21 rfl) (wd hw 22 rfl) (notFace_of_selects (args := #[]) (mvT C.hZ (wd hw 24 rfl))) (wd hw 24 rfl) (wd hw 23 rfl) (wd hw 2 rfl) (wd hw 25 rfl) (by decide) E_a (lenOf pd_5 rfl) rfl at_154 (n := 157) rfl rfl (by decide) (W := 0) rfl (by decide) (by decide) (by decide) ?_
                          clear X eT
                          intro T h' v L X eT hQ
                          obtain ⟨rfl, rfl, hE⟩ := hQ
                          replace hE := hE.symm
                          subst hE
                          replace N := N.app (Fr.nil n0)
                          show Go p e below _ (T.setTop (mkF m 157 #[.val (.int p0), .val (.int p1), .val (.int p2), .val (.int p3), .val (.int p4), .val (.int p5), .val (.ref a), .val (.int (1 : Int32)), .val (.int (1 : Int32)), .val (.int (1 : Int32)), .val (.int (1 : Int32))] [(.int (1 : Int32))]))
                          refine Go.iload C X at_157 (n := 159) rfl rfl ?_
                          refine Go.icmp_ne C X at_159 (n1 := 166) (n2 := 162) (by decide) (by decide) rfl (fun hc159 => ?_) (fun hc159 => ?_)
                          · exact absurd hc159 (by decide)
                          · refine Go.iconst C X at_162 (n := 163) rfl (v := (1 : Int32)) rfl ?_
                            refine Go.goto C X at_163 (n := 167) (by decide) (by decide) ?_
                            refine Go.istore C X at_167 (n := 169) rfl (l' := #[.val (.int p0), .val (.int p1), .val (.int p2), .val (.int p3), .val (.int p4), .val (.int p5), .val (.ref a), .val (.int (1 : Int32)), .val (.int (1 : Int32)), .val (.int (1 : Int32)), .val (.int (1 : Int32))]) rfl ?_
                            refine Go.iload C X at_169 (n := 171) rfl rfl ?_
                            refine Go.iconst C X at_171 (n := 172) rfl (v := (1 : Int32)) rfl ?_
                            refine Go.iand C X at_172 (n := 173) rfl ?_
                            refine Go.if0_eq C X at_173 (n1 := 201) (n2 := 176) (by decide) (by decide) rfl (fun hc173 => ?_) (fun hc173 => ?_)
                            · refine Go.iload C X at_201 (n := 203) rfl rfl ?_
                              refine Go.retN C X eT (Or.inl rfl) (w := (1 : Int32)) (by decide) at_203 (by decide) (by decide) ?_
                              exact ⟨rfl, N⟩
                            · refine Go.aload C X at_176 (n := 178) rfl rfl rfl ?_
                              have E_a := Q.exa
                              refine Go.virt C X eT (argsL := []) (rest := []) (a := a) (rm4 l Z a0 hw n0 _ a _ _ O Q) (wd hw 28 rfl) (wd hw 29 rfl) (notFace_of_selects (args := #[]) (mvT C.hZ (wd hw 31 rfl))) (wd hw 31 rfl) (wd hw 30 rfl) (wd hw 2 rfl) (wd hw 32 rfl) (by decide) E_a (lenOf pd_4 rfl) rfl at_178 (n := 181) rfl rfl (by decide) (W := 0) rfl (by decide) (by decide) (by decide) ?_
                              clear X eT
                              intro T h v L X eT hQ
                              obtain ⟨rfl, Nq, KK, O, Q⟩ := hQ
                              replace N := N.app Nq
                              show Go p e below _ (T.setTop (mkF m 181 #[.val (.int p0), .val (.int p1), .val (.int p2), .val (.int p3), .val (.int p4), .val (.int p5), .val (.ref a), .val (.int (1 : Int32)), .val (.int (1 : Int32)), .val (.int (1 : Int32)), .val (.int (1 : Int32))] []))
                              refine Go.iload C X at_181 (n := 183) rfl rfl ?_
                              refine Go.if0_eq C X at_183 (n1 := 198) (n2 := 186) (by decide) (by decide) rfl (fun hc183 => ?_) (fun hc183 => ?_)
                              · exact absurd hc183 (by decide)
                              · refine Go.aload C X at_186 (n := 188) rfl rfl rfl ?_
                                have E_a := Q.exa
                                refine Go.virt C X eT (argsL := []) (rest := []) (a := a) (rm3 l Z a0 hw n0 _ a (0 : Int32) Q.size) (wd hw 21 rfl) (wd hw 22 rfl) (notFace_of_selects (args := #[]) (mvT C.hZ (wd hw 24 rfl))) (wd hw 24 rfl) (wd hw 23 rfl) (wd hw 2 rfl) (wd hw 25 rfl) (by decide) E_a (lenOf pd_5 rfl) rfl at_188 (n := 191) rfl rfl (by decide) (W := 0) rfl (by decide) (by decide) (by decide) ?_
                                clear X eT
                                intro T h' v L X eT hQ
                                obtain ⟨rfl, rfl, hE⟩ := hQ
                                replace hE := hE.symm
                                subst hE
                                replace N := N.app (Fr.nil n0)
                                show Go p e below _ (T.setTop (mkF m 191 #[.val (.int p0), .val (.int p1), .val (.int p2), .val (.int p3), .val (.int p4), .val (.int p5), .val (.ref a), .val (.int (1 : Int32)), .val (.int (1 : Int32)), .val (.int (1 : Int32)), .val (.int (1 : Int32))] [(.int (1 : Int32))]))
                                refine Go.if0_eq C X at_191 (n1 := 198) (n2 := 194) (by decide) (by decide) rfl (fun hc191 => ?_) (fun hc191 => ?_)
                                · exact absurd hc191 (by decide)
                                · refine Go.iconst C X at_194 (n := 195) rfl (v := (1 : Int32)) rfl ?_
                                  refine Go.goto C X at_195 (n := 199) (by decide) (by decide) ?_
                                  refine Go.istore C X at_199 (n := 201) rfl (l' := #[.val (.int p0), .val (.int p1), .val (.int p2), .val (.int p3), .val (.int p4), .val (.int p5), .val (.ref a), .val (.int (1 : Int32)), .val (.int (1 : Int32)), .val (.int (1 : Int32)), .val (.int (1 : Int32))]) rfl ?_
                                  refine Go.iload C X at_201 (n := 203) rfl rfl ?_
                                  refine Go.retN C X eT (Or.inl rfl) (w := (1 : Int32)) (by decide) at_203 (by decide) (by decide) ?_
                                  exact ⟨rfl, N⟩
                    · exact absurd hc124 (by decide)
                  · exact absurd hc112 (by decide)
              · exact absurd hc81 (by decide)
            · exact absurd hc65 (by decide)
      · show Go p e below _ (T.setTop (mkF m 33 #[.val (.int p0), .val (.int p1), .val (.int p2), .val (.int p3), .val (.int p4), .val (.int p5), .val (.ref a), .val (.int (1 : Int32)), .val (.int (1 : Int32)), .unset, .unset] [(.int (3 : Int32))]))
        refine Go.istore C X at_33 (n := 35) rfl (l' := #[.val (.int p0), .val (.int p1), .val (.int p2), .val (.int p3), .val (.int p4), .val (.int p5), .val (.ref a), .val (.int (1 : Int32)), .val (.int (1 : Int32)), .val (.int (3 : Int32)), .unset]) rfl ?_
        refine Go.iload C X at_35 (n := 37) rfl rfl ?_
        refine Go.iload C X at_37 (n := 39) rfl rfl ?_
        refine Go.icmp_le C X at_39 (n1 := 46) (n2 := 42) (by decide) (by decide) rfl (fun hc39 => ?_) (fun hc39 => ?_)
        · exact absurd hc39 (by decide)
        · refine Go.iload C X at_42 (n := 44) rfl rfl ?_
          refine Go.istore C X at_44 (n := 46) rfl (l' := #[.val (.int p0), .val (.int p1), .val (.int p2), .val (.int p3), .val (.int p4), .val (.int p5), .val (.ref a), .val (.int (1 : Int32)), .val (.int (1 : Int32)), .val (.int (1 : Int32)), .unset]) rfl ?_
          refine Go.iload C X at_46 (n := 48) rfl rfl ?_
          refine Go.iconst C X at_48 (n := 49) rfl (v := (1 : Int32)) rfl ?_
          refine Go.icmp_lt C X at_49 (n1 := 62) (n2 := 52) (by decide) (by decide) rfl (fun hc49 => ?_) (fun hc49 => ?_)
          · exact absurd hc49 (by decide)
          · refine Go.aload C X at_52 (n := 54) rfl rfl rfl ?_
            refine Go.iloadN C X at_54 (n := 55) rfl rfl ?_
            refine Go.i2d C X at_55 (n := 56) rfl ?_
            refine Go.dconst0 C X at_56 (n := 57) rfl ?_
            refine Go.iconst C X at_57 (n := 58) rfl (v := (0 : Int32)) rfl ?_
            have E_a := Q.exa
            refine Go.virt C X eT (argsL := [(.double (FP.i2d p2)), (.double FP.dconst0), (.int (0 : Int32))]) (rest := []) (a := a) (add0 l Z a0 hw n0 _ a (FP.i2d p2) FP.dconst0 (0 : Int32) (nn_i2d _) O Q) (wd hw 35 rfl) (wd hw 36 rfl) (notFace_of_selects (args := #[]) (mvT C.hZ (wd hw 38 rfl))) (wd hw 38 rfl) (wd hw 37 rfl) (wd hw 2 rfl) (wd hw 39 rfl) (by decide) E_a (lenOf pd_6 rfl) rfl at_58 (n := 61) rfl rfl (by decide) (W := 0) rfl (by decide) (by decide) (by decide) ?_
            clear X eT
            intro T h v L X eT hQ
            obtain ⟨r58, rfl, Nq, KK, O, Q⟩ := hQ
            replace N := N.app Nq
            show Go p e below _ (T.setTop (mkF m 61 #[.val (.int p0), .val (.int p1), .val (.int p2), .val (.int p3), .val (.int p4), .val (.int p5), .val (.ref a), .val (.int (1 : Int32)), .val (.int (1 : Int32)), .val (.int (1 : Int32)), .unset] [(.int r58)]))
            refine Go.pop C X at_61 (n := 62) rfl rfl ?_
            refine Go.iload C X at_62 (n := 64) rfl rfl ?_
            refine Go.iconst C X at_64 (n := 65) rfl (v := (2 : Int32)) rfl ?_
            refine Go.icmp_lt C X at_65 (n1 := 78) (n2 := 68) (by decide) (by decide) rfl (fun hc65 => ?_) (fun hc65 => ?_)
            · refine Go.iload C X at_78 (n := 80) rfl rfl ?_
              refine Go.iconst C X at_80 (n := 81) rfl (v := (3 : Int32)) rfl ?_
              refine Go.icmp_lt C X at_81 (n1 := 97) (n2 := 84) (by decide) (by decide) rfl (fun hc81 => ?_) (fun hc81 => ?_)
              · refine Go.iload C X at_97 (n := 99) rfl rfl ?_
                refine Go.iconst C X at_99 (n := 100) rfl (v := (1 : Int32)) rfl ?_
                refine Go.icmp_lt C X at_100 (n1 := 109) (n2 := 103) (by decide) (by decide) rfl (fun hc100 => ?_) (fun hc100 => ?_)
                · exact absurd hc100 (by decide)
                · refine Go.aload C X at_103 (n := 105) rfl rfl rfl ?_
                  have E_a := Q.exa
                  refine Go.virt C X eT (argsL := []) (rest := []) (a := a) (poll1 l Z a0 hw n0 _ a _ O Q) (wd hw 40 rfl) (wd hw 41 rfl) (notFace_of_selects (args := #[]) (mvT C.hZ (wd hw 43 rfl))) (wd hw 43 rfl) (wd hw 42 rfl) (wd hw 2 rfl) (wd hw 44 rfl) (by decide) E_a (lenOf pd_7 rfl) rfl at_105 (n := 108) rfl rfl (by decide) (W := 0) rfl (by decide) (by decide) (by decide) ?_
                  clear X eT
                  intro T h v L X eT hQ
                  obtain ⟨r105, rfl, Nq, KK, O, Q⟩ := hQ
                  replace N := N.app Nq
                  show Go p e below _ (T.setTop (mkF m 108 #[.val (.int p0), .val (.int p1), .val (.int p2), .val (.int p3), .val (.int p4), .val (.int p5), .val (.ref a), .val (.int (1 : Int32)), .val (.int (1 : Int32)), .val (.int (1 : Int32)), .unset] [(.int r105)]))
                  refine Go.pop C X at_108 (n := 109) rfl rfl ?_
                  refine Go.iload C X at_109 (n := 111) rfl rfl ?_
                  refine Go.iconst C X at_111 (n := 112) rfl (v := (2 : Int32)) rfl ?_
                  refine Go.icmp_lt C X at_112 (n1 := 121) (n2 := 115) (by decide) (by decide) rfl (fun hc112 => ?_) (fun hc112 => ?_)
                  · refine Go.iload C X at_121 (n := 123) rfl rfl ?_
                    refine Go.iconst C X at_123 (n := 124) rfl (v := (3 : Int32)) rfl ?_
                    refine Go.icmp_lt C X at_124 (n1 := 133) (n2 := 127) (by decide) (by decide) rfl (fun hc124 => ?_) (fun hc124 => ?_)
                    · refine Go.iload C X at_133 (n := 135) rfl rfl ?_
                      refine Go.iload C X at_135 (n := 137) rfl rfl ?_
                      refine Go.icmp_ne C X at_137 (n1 := 144) (n2 := 140) (by decide) (by decide) rfl (fun hc137 => ?_) (fun hc137 => ?_)
                      · exact absurd hc137 (by decide)
                      · refine Go.iconst C X at_140 (n := 141) rfl (v := (1 : Int32)) rfl ?_
                        refine Go.goto C X at_141 (n := 145) (by decide) (by decide) ?_
                        refine Go.istore C X at_145 (n := 147) rfl (l' := #[.val (.int p0), .val (.int p1), .val (.int p2), .val (.int p3), .val (.int p4), .val (.int p5), .val (.ref a), .val (.int (1 : Int32)), .val (.int (1 : Int32)), .val (.int (1 : Int32)), .val (.int (1 : Int32))]) rfl ?_
                        refine Go.iload C X at_147 (n := 149) rfl rfl ?_
                        refine Go.if0_eq C X at_149 (n1 := 166) (n2 := 152) (by decide) (by decide) rfl (fun hc149 => ?_) (fun hc149 => ?_)
                        · exact absurd hc149 (by decide)
                        · refine Go.aload C X at_152 (n := 154) rfl rfl rfl ?_
                          have E_a := Q.exa
                          refine Go.virt C X eT (argsL := []) (rest := []) (a := a) (rm3 l Z a0 hw n0 _ a (0 : Int32) Q.size) (wd hw 21 rfl) (wd hw 22 rfl) (notFace_of_selects (args := #[]) (mvT C.hZ (wd hw 24 rfl))) (wd hw 24 rfl) (wd hw 23 rfl) (wd hw 2 rfl) (wd hw 25 rfl) (by decide) E_a (lenOf pd_5 rfl) rfl at_154 (n := 157) rfl rfl (by decide) (W := 0) rfl (by decide) (by decide) (by decide) ?_
                          clear X eT
                          intro T h' v L X eT hQ
                          obtain ⟨rfl, rfl, hE⟩ := hQ
                          replace hE := hE.symm
                          subst hE
                          replace N := N.app (Fr.nil n0)
                          show Go p e below _ (T.setTop (mkF m 157 #[.val (.int p0), .val (.int p1), .val (.int p2), .val (.int p3), .val (.int p4), .val (.int p5), .val (.ref a), .val (.int (1 : Int32)), .val (.int (1 : Int32)), .val (.int (1 : Int32)), .val (.int (1 : Int32))] [(.int (1 : Int32))]))
                          refine Go.iload C X at_157 (n := 159) rfl rfl ?_
                          refine Go.icmp_ne C X at_159 (n1 := 166) (n2 := 162) (by decide) (by decide) rfl (fun hc159 => ?_) (fun hc159 => ?_)
                          · exact absurd hc159 (by decide)
                          · refine Go.iconst C X at_162 (n := 163) rfl (v := (1 : Int32)) rfl ?_
                            refine Go.goto C X at_163 (n := 167) (by decide) (by decide) ?_
                            refine Go.istore C X at_167 (n := 169) rfl (l' := #[.val (.int p0), .val (.int p1), .val (.int p2), .val (.int p3), .val (.int p4), .val (.int p5), .val (.ref a), .val (.int (1 : Int32)), .val (.int (1 : Int32)), .val (.int (1 : Int32)), .val (.int (1 : Int32))]) rfl ?_
                            refine Go.iload C X at_169 (n := 171) rfl rfl ?_
                            refine Go.iconst C X at_171 (n := 172) rfl (v := (1 : Int32)) rfl ?_
                            refine Go.iand C X at_172 (n := 173) rfl ?_
                            refine Go.if0_eq C X at_173 (n1 := 201) (n2 := 176) (by decide) (by decide) rfl (fun hc173 => ?_) (fun hc173 => ?_)
                            · refine Go.iload C X at_201 (n := 203) rfl rfl ?_
                              refine Go.retN C X eT (Or.inl rfl) (w := (1 : Int32)) (by decide) at_203 (by decide) (by decide) ?_
                              exact ⟨rfl, N⟩
                            · refine Go.aload C X at_176 (n := 178) rfl rfl rfl ?_
                              have E_a := Q.exa
                              refine Go.virt C X eT (argsL := []) (rest := []) (a := a) (rm4 l Z a0 hw n0 _ a _ _ O Q) (wd hw 28 rfl) (wd hw 29 rfl) (notFace_of_selects (args := #[]) (mvT C.hZ (wd hw 31 rfl))) (wd hw 31 rfl) (wd hw 30 rfl) (wd hw 2 rfl) (wd hw 32 rfl) (by decide) E_a (lenOf pd_4 rfl) rfl at_178 (n := 181) rfl rfl (by decide) (W := 0) rfl (by decide) (by decide) (by decide) ?_
                              clear X eT
                              intro T h v L X eT hQ
                              obtain ⟨rfl, Nq, KK, O, Q⟩ := hQ
                              replace N := N.app Nq
                              show Go p e below _ (T.setTop (mkF m 181 #[.val (.int p0), .val (.int p1), .val (.int p2), .val (.int p3), .val (.int p4), .val (.int p5), .val (.ref a), .val (.int (1 : Int32)), .val (.int (1 : Int32)), .val (.int (1 : Int32)), .val (.int (1 : Int32))] []))
                              refine Go.iload C X at_181 (n := 183) rfl rfl ?_
                              refine Go.if0_eq C X at_183 (n1 := 198) (n2 := 186) (by decide) (by decide) rfl (fun hc183 => ?_) (fun hc183 => ?_)
                              · exact absurd hc183 (by decide)
                              · refine Go.aload C X at_186 (n := 188) rfl rfl rfl ?_
                                have E_a := Q.exa
                                refine Go.virt C X eT (argsL := []) (rest := []) (a := a) (rm3 l Z a0 hw n0 _ a (0 : Int32) Q.size) (wd hw 21 rfl) (wd hw 22 rfl) (notFace_of_selects (args := #[]) (mvT C.hZ (wd hw 24 rfl))) (wd hw 24 rfl) (wd hw 23 rfl) (wd hw 2 rfl) (wd hw 25 rfl) (by decide) E_a (lenOf pd_5 rfl) rfl at_188 (n := 191) rfl rfl (by decide) (W := 0) rfl (by decide) (by decide) (by decide) ?_
                                clear X eT
                                intro T h' v L X eT hQ
                                obtain ⟨rfl, rfl, hE⟩ := hQ
                                replace hE := hE.symm
                                subst hE
                                replace N := N.app (Fr.nil n0)
                                show Go p e below _ (T.setTop (mkF m 191 #[.val (.int p0), .val (.int p1), .val (.int p2), .val (.int p3), .val (.int p4), .val (.int p5), .val (.ref a), .val (.int (1 : Int32)), .val (.int (1 : Int32)), .val (.int (1 : Int32)), .val (.int (1 : Int32))] [(.int (1 : Int32))]))
                                refine Go.if0_eq C X at_191 (n1 := 198) (n2 := 194) (by decide) (by decide) rfl (fun hc191 => ?_) (fun hc191 => ?_)
                                · exact absurd hc191 (by decide)
                                · refine Go.iconst C X at_194 (n := 195) rfl (v := (1 : Int32)) rfl ?_
                                  refine Go.goto C X at_195 (n := 199) (by decide) (by decide) ?_
                                  refine Go.istore C X at_199 (n := 201) rfl (l' := #[.val (.int p0), .val (.int p1), .val (.int p2), .val (.int p3), .val (.int p4), .val (.int p5), .val (.ref a), .val (.int (1 : Int32)), .val (.int (1 : Int32)), .val (.int (1 : Int32)), .val (.int (1 : Int32))]) rfl ?_
                                  refine Go.iload C X at_201 (n := 203) rfl rfl ?_
                                  refine Go.retN C X eT (Or.inl rfl) (w := (1 : Int32)) (by decide) at_203 (by decide) (by decide) ?_
                                  exact ⟨rfl, N⟩
                    · exact absurd hc124 (by decide)
                  · exact absurd hc112 (by decide)
              · exact absurd hc81 (by decide)
            · exact absurd hc65 (by decide)
    · exact absurd hc24 (by decide)
  · show Go p e below _ (T.setTop (mkF m 19 #[.val (.int p0), .val (.int p1), .val (.int p2), .val (.int p3), .val (.int p4), .val (.int p5), .val (.ref a), .val (.int (1 : Int32)), .unset, .unset, .unset] [(.int (2 : Int32))]))
    refine Go.istore C X at_19 (n := 21) rfl (l' := #[.val (.int p0), .val (.int p1), .val (.int p2), .val (.int p3), .val (.int p4), .val (.int p5), .val (.ref a), .val (.int (1 : Int32)), .val (.int (2 : Int32)), .unset, .unset]) rfl ?_
    refine Go.iload C X at_21 (n := 23) rfl rfl ?_
    refine Go.iconst C X at_23 (n := 24) rfl (v := (3 : Int32)) rfl ?_
    refine Go.icmp_le C X at_24 (n1 := 30) (n2 := 27) (by decide) (by decide) rfl (fun hc24 => ?_) (fun hc24 => ?_)
    · refine Go.iloadN C X at_30 (n := 31) rfl rfl ?_
      refine Go.iconst C X at_31 (n := 32) rfl (v := (3 : Int32)) rfl ?_
      refine Go.iand C X at_32 (n := 33) rfl ?_
      obtain ⟨u9, qu9⟩ : ∃ z, z = (p1 &&& (3 : Int32)) := ⟨_, rfl⟩
      rw [← qu9]
      have hu9 := own_four (x := u9) (by rw [qu9]; exact own_m3 _)
      clear qu9
      obtain rfl | rfl | rfl | rfl := hu9
      · show Go p e below _ (T.setTop (mkF m 33 #[.val (.int p0), .val (.int p1), .val (.int p2), .val (.int p3), .val (.int p4), .val (.int p5), .val (.ref a), .val (.int (1 : Int32)), .val (.int (2 : Int32)), .unset, .unset] [(.int (0 : Int32))]))
        refine Go.istore C X at_33 (n := 35) rfl (l' := #[.val (.int p0), .val (.int p1), .val (.int p2), .val (.int p3), .val (.int p4), .val (.int p5), .val (.ref a), .val (.int (1 : Int32)), .val (.int (2 : Int32)), .val (.int (0 : Int32)), .unset]) rfl ?_
        refine Go.iload C X at_35 (n := 37) rfl rfl ?_
        refine Go.iload C X at_37 (n := 39) rfl rfl ?_
        refine Go.icmp_le C X at_39 (n1 := 46) (n2 := 42) (by decide) (by decide) rfl (fun hc39 => ?_) (fun hc39 => ?_)
        · refine Go.iload C X at_46 (n := 48) rfl rfl ?_
          refine Go.iconst C X at_48 (n := 49) rfl (v := (1 : Int32)) rfl ?_
          refine Go.icmp_lt C X at_49 (n1 := 62) (n2 := 52) (by decide) (by decide) rfl (fun hc49 => ?_) (fun hc49 => ?_)
          · exact absurd hc49 (by decide)
          · refine Go.aload C X at_52 (n := 54) rfl rfl rfl ?_
            refine Go.iloadN C X at_54 (n := 55) rfl rfl ?_
            refine Go.i2d C X at_55 (n := 56) rfl ?_
            refine Go.dconst0 C X at_56 (n := 57) rfl ?_
            refine Go.iconst C X at_57 (n := 58) rfl (v := (0 : Int32)) rfl ?_
            have E_a := Q.exa
            refine Go.virt C X eT (argsL := [(.double (FP.i2d p2)), (.double FP.dconst0), (.int (0 : Int32))]) (rest := []) (a := a) (add0 l Z a0 hw n0 _ a (FP.i2d p2) FP.dconst0 (0 : Int32) (nn_i2d _) O Q) (wd hw 35 rfl) (wd hw 36 rfl) (notFace_of_selects (args := #[]) (mvT C.hZ (wd hw 38 rfl))) (wd hw 38 rfl) (wd hw 37 rfl) (wd hw 2 rfl) (wd hw 39 rfl) (by decide) E_a (lenOf pd_6 rfl) rfl at_58 (n := 61) rfl rfl (by decide) (W := 0) rfl (by decide) (by decide) (by decide) ?_
            clear X eT
            intro T h v L X eT hQ
            obtain ⟨r58, rfl, Nq, KK, O, Q⟩ := hQ
            replace N := N.app Nq
            show Go p e below _ (T.setTop (mkF m 61 #[.val (.int p0), .val (.int p1), .val (.int p2), .val (.int p3), .val (.int p4), .val (.int p5), .val (.ref a), .val (.int (1 : Int32)), .val (.int (2 : Int32)), .val (.int (0 : Int32)), .unset] [(.int r58)]))
            refine Go.pop C X at_61 (n := 62) rfl rfl ?_
            refine Go.iload C X at_62 (n := 64) rfl rfl ?_
            refine Go.iconst C X at_64 (n := 65) rfl (v := (2 : Int32)) rfl ?_
            refine Go.icmp_lt C X at_65 (n1 := 78) (n2 := 68) (by decide) (by decide) rfl (fun hc65 => ?_) (fun hc65 => ?_)
            · exact absurd hc65 (by decide)
            · refine Go.aload C X at_68 (n := 70) rfl rfl rfl ?_
              refine Go.iloadN C X at_70 (n := 71) rfl rfl ?_
              refine Go.i2d C X at_71 (n := 72) rfl ?_
              refine Go.dconst1 C X at_72 (n := 73) rfl ?_
              refine Go.iconst C X at_73 (n := 74) rfl (v := (1 : Int32)) rfl ?_
              have E_a := Q.exa
              refine Go.virt C X eT (argsL := [(.double (FP.i2d p3)), (.double FP.dconst1), (.int (1 : Int32))]) (rest := []) (a := a) (add1 l Z a0 hw n0 _ a (FP.i2d p3) FP.dconst1 (1 : Int32) (nn_i2d _) O Q) (wd hw 35 rfl) (wd hw 36 rfl) (notFace_of_selects (args := #[]) (mvT C.hZ (wd hw 38 rfl))) (wd hw 38 rfl) (wd hw 37 rfl) (wd hw 2 rfl) (wd hw 39 rfl) (by decide) E_a (lenOf pd_6 rfl) rfl at_74 (n := 77) rfl rfl (by decide) (W := 0) rfl (by decide) (by decide) (by decide) ?_
              clear X eT
              intro T h v L X eT hQ
              obtain ⟨r74, rfl, Nq, KK, O, Q⟩ := hQ
              replace N := N.app Nq
              show Go p e below _ (T.setTop (mkF m 77 #[.val (.int p0), .val (.int p1), .val (.int p2), .val (.int p3), .val (.int p4), .val (.int p5), .val (.ref a), .val (.int (1 : Int32)), .val (.int (2 : Int32)), .val (.int (0 : Int32)), .unset] [(.int r74)]))
              refine Go.pop C X at_77 (n := 78) rfl rfl ?_
              refine Go.iload C X at_78 (n := 80) rfl rfl ?_
              refine Go.iconst C X at_80 (n := 81) rfl (v := (3 : Int32)) rfl ?_
              refine Go.icmp_lt C X at_81 (n1 := 97) (n2 := 84) (by decide) (by decide) rfl (fun hc81 => ?_) (fun hc81 => ?_)
              · refine Go.iload C X at_97 (n := 99) rfl rfl ?_
                refine Go.iconst C X at_99 (n := 100) rfl (v := (1 : Int32)) rfl ?_
                refine Go.icmp_lt C X at_100 (n1 := 109) (n2 := 103) (by decide) (by decide) rfl (fun hc100 => ?_) (fun hc100 => ?_)
                · refine Go.iload C X at_109 (n := 111) rfl rfl ?_
                  refine Go.iconst C X at_111 (n := 112) rfl (v := (2 : Int32)) rfl ?_
                  refine Go.icmp_lt C X at_112 (n1 := 121) (n2 := 115) (by decide) (by decide) rfl (fun hc112 => ?_) (fun hc112 => ?_)
                  · refine Go.iload C X at_121 (n := 123) rfl rfl ?_
                    refine Go.iconst C X at_123 (n := 124) rfl (v := (3 : Int32)) rfl ?_
                    refine Go.icmp_lt C X at_124 (n1 := 133) (n2 := 127) (by decide) (by decide) rfl (fun hc124 => ?_) (fun hc124 => ?_)
                    · refine Go.iload C X at_133 (n := 135) rfl rfl ?_
                      refine Go.iload C X at_135 (n := 137) rfl rfl ?_
                      refine Go.icmp_ne C X at_137 (n1 := 144) (n2 := 140) (by decide) (by decide) rfl (fun hc137 => ?_) (fun hc137 => ?_)
                      · refine Go.iconst C X at_144 (n := 145) rfl (v := (0 : Int32)) rfl ?_
                        refine Go.istore C X at_145 (n := 147) rfl (l' := #[.val (.int p0), .val (.int p1), .val (.int p2), .val (.int p3), .val (.int p4), .val (.int p5), .val (.ref a), .val (.int (1 : Int32)), .val (.int (2 : Int32)), .val (.int (0 : Int32)), .val (.int (0 : Int32))]) rfl ?_
                        refine Go.iload C X at_147 (n := 149) rfl rfl ?_
                        refine Go.if0_eq C X at_149 (n1 := 166) (n2 := 152) (by decide) (by decide) rfl (fun hc149 => ?_) (fun hc149 => ?_)
                        · exact absurd hc149 (by decide)
                        · refine Go.aload C X at_152 (n := 154) rfl rfl rfl ?_
                          have E_a := Q.exa
                          refine Go.virt C X eT (argsL := []) (rest := []) (a := a) (rm3 l Z a0 hw n0 _ a (2 : Int32) Q.size) (wd hw 21 rfl) (wd hw 22 rfl) (notFace_of_selects (args := #[]) (mvT C.hZ (wd hw 24 rfl))) (wd hw 24 rfl) (wd hw 23 rfl) (wd hw 2 rfl) (wd hw 25 rfl) (by decide) E_a (lenOf pd_5 rfl) rfl at_154 (n := 157) rfl rfl (by decide) (W := 0) rfl (by decide) (by decide) (by decide) ?_
                          clear X eT
                          intro T h' v L X eT hQ
                          obtain ⟨rfl, rfl, hE⟩ := hQ
                          replace hE := hE.symm
                          subst hE
                          replace N := N.app (Fr.nil n0)
                          show Go p e below _ (T.setTop (mkF m 157 #[.val (.int p0), .val (.int p1), .val (.int p2), .val (.int p3), .val (.int p4), .val (.int p5), .val (.ref a), .val (.int (1 : Int32)), .val (.int (2 : Int32)), .val (.int (0 : Int32)), .val (.int (0 : Int32))] [(.int (0 : Int32))]))
                          refine Go.iload C X at_157 (n := 159) rfl rfl ?_
                          refine Go.icmp_ne C X at_159 (n1 := 166) (n2 := 162) (by decide) (by decide) rfl (fun hc159 => ?_) (fun hc159 => ?_)
                          · exact absurd hc159 (by decide)
                          · refine Go.iconst C X at_162 (n := 163) rfl (v := (1 : Int32)) rfl ?_
                            refine Go.goto C X at_163 (n := 167) (by decide) (by decide) ?_
                            refine Go.istore C X at_167 (n := 169) rfl (l' := #[.val (.int p0), .val (.int p1), .val (.int p2), .val (.int p3), .val (.int p4), .val (.int p5), .val (.ref a), .val (.int (1 : Int32)), .val (.int (2 : Int32)), .val (.int (0 : Int32)), .val (.int (0 : Int32))]) rfl ?_
                            refine Go.iload C X at_169 (n := 171) rfl rfl ?_
                            refine Go.iconst C X at_171 (n := 172) rfl (v := (1 : Int32)) rfl ?_
                            refine Go.iand C X at_172 (n := 173) rfl ?_
                            refine Go.if0_eq C X at_173 (n1 := 201) (n2 := 176) (by decide) (by decide) rfl (fun hc173 => ?_) (fun hc173 => ?_)
                            · refine Go.iload C X at_201 (n := 203) rfl rfl ?_
                              refine Go.retN C X eT (Or.inl rfl) (w := (1 : Int32)) (by decide) at_203 (by decide) (by decide) ?_
                              exact ⟨rfl, N⟩
                            · refine Go.aload C X at_176 (n := 178) rfl rfl rfl ?_
                              have E_a := Q.exa
                              refine Go.virt C X eT (argsL := []) (rest := []) (a := a) (rm4 l Z a0 hw n0 _ a _ _ O Q) (wd hw 28 rfl) (wd hw 29 rfl) (notFace_of_selects (args := #[]) (mvT C.hZ (wd hw 31 rfl))) (wd hw 31 rfl) (wd hw 30 rfl) (wd hw 2 rfl) (wd hw 32 rfl) (by decide) E_a (lenOf pd_4 rfl) rfl at_178 (n := 181) rfl rfl (by decide) (W := 0) rfl (by decide) (by decide) (by decide) ?_
                              clear X eT
                              intro T h v L X eT hQ
                              obtain ⟨rfl, Nq, KK, O, Q⟩ := hQ
                              replace N := N.app Nq
                              show Go p e below _ (T.setTop (mkF m 181 #[.val (.int p0), .val (.int p1), .val (.int p2), .val (.int p3), .val (.int p4), .val (.int p5), .val (.ref a), .val (.int (1 : Int32)), .val (.int (2 : Int32)), .val (.int (0 : Int32)), .val (.int (0 : Int32))] []))
                              refine Go.iload C X at_181 (n := 183) rfl rfl ?_
                              refine Go.if0_eq C X at_183 (n1 := 198) (n2 := 186) (by decide) (by decide) rfl (fun hc183 => ?_) (fun hc183 => ?_)
                              · exact absurd hc183 (by decide)
                              · refine Go.aload C X at_186 (n := 188) rfl rfl rfl ?_
                                have E_a := Q.exa
                                refine Go.virt C X eT (argsL := []) (rest := []) (a := a) (rm3 l Z a0 hw n0 _ a (0 : Int32) Q.size) (wd hw 21 rfl) (wd hw 22 rfl) (notFace_of_selects (args := #[]) (mvT C.hZ (wd hw 24 rfl))) (wd hw 24 rfl) (wd hw 23 rfl) (wd hw 2 rfl) (wd hw 25 rfl) (by decide) E_a (lenOf pd_5 rfl) rfl at_188 (n := 191) rfl rfl (by decide) (W := 0) rfl (by decide) (by decide) (by decide) ?_
                                clear X eT
                                intro T h' v L X eT hQ
                                obtain ⟨rfl, rfl, hE⟩ := hQ
                                replace hE := hE.symm
                                subst hE
                                replace N := N.app (Fr.nil n0)
                                show Go p e below _ (T.setTop (mkF m 191 #[.val (.int p0), .val (.int p1), .val (.int p2), .val (.int p3), .val (.int p4), .val (.int p5), .val (.ref a), .val (.int (1 : Int32)), .val (.int (2 : Int32)), .val (.int (0 : Int32)), .val (.int (0 : Int32))] [(.int (1 : Int32))]))
                                refine Go.if0_eq C X at_191 (n1 := 198) (n2 := 194) (by decide) (by decide) rfl (fun hc191 => ?_) (fun hc191 => ?_)
                                · exact absurd hc191 (by decide)
                                · refine Go.iconst C X at_194 (n := 195) rfl (v := (1 : Int32)) rfl ?_
                                  refine Go.goto C X at_195 (n := 199) (by decide) (by decide) ?_
                                  refine Go.istore C X at_199 (n := 201) rfl (l' := #[.val (.int p0), .val (.int p1), .val (.int p2), .val (.int p3), .val (.int p4), .val (.int p5), .val (.ref a), .val (.int (1 : Int32)), .val (.int (2 : Int32)), .val (.int (0 : Int32)), .val (.int (0 : Int32))]) rfl ?_
                                  refine Go.iload C X at_201 (n := 203) rfl rfl ?_
                                  refine Go.retN C X eT (Or.inl rfl) (w := (1 : Int32)) (by decide) at_203 (by decide) (by decide) ?_
                                  exact ⟨rfl, N⟩
                      · exact absurd hc137 (by decide)
                    · exact absurd hc124 (by decide)
                  · exact absurd hc112 (by decide)
                · exact absurd hc100 (by decide)
              · exact absurd hc81 (by decide)
        · exact absurd hc39 (by decide)
      · show Go p e below _ (T.setTop (mkF m 33 #[.val (.int p0), .val (.int p1), .val (.int p2), .val (.int p3), .val (.int p4), .val (.int p5), .val (.ref a), .val (.int (1 : Int32)), .val (.int (2 : Int32)), .unset, .unset] [(.int (1 : Int32))]))
        refine Go.istore C X at_33 (n := 35) rfl (l' := #[.val (.int p0), .val (.int p1), .val (.int p2), .val (.int p3), .val (.int p4), .val (.int p5), .val (.ref a), .val (.int (1 : Int32)), .val (.int (2 : Int32)), .val (.int (1 : Int32)), .unset]) rfl ?_
        refine Go.iload C X at_35 (n := 37) rfl rfl ?_
        refine Go.iload C X at_37 (n := 39) rfl rfl ?_
        refine Go.icmp_le C X at_39 (n1 := 46) (n2 := 42) (by decide) (by decide) rfl (fun hc39 => ?_) (fun hc39 => ?_)
        · refine Go.iload C X at_46 (n := 48) rfl rfl ?_
          refine Go.iconst C X at_48 (n := 49) rfl (v := (1 : Int32)) rfl ?_
          refine Go.icmp_lt C X at_49 (n1 := 62) (n2 := 52) (by decide) (by decide) rfl (fun hc49 => ?_) (fun hc49 => ?_)
          · exact absurd hc49 (by decide)
          · refine Go.aload C X at_52 (n := 54) rfl rfl rfl ?_
            refine Go.iloadN C X at_54 (n := 55) rfl rfl ?_
            refine Go.i2d C X at_55 (n := 56) rfl ?_
            refine Go.dconst0 C X at_56 (n := 57) rfl ?_
            refine Go.iconst C X at_57 (n := 58) rfl (v := (0 : Int32)) rfl ?_
            have E_a := Q.exa
            refine Go.virt C X eT (argsL := [(.double (FP.i2d p2)), (.double FP.dconst0), (.int (0 : Int32))]) (rest := []) (a := a) (add0 l Z a0 hw n0 _ a (FP.i2d p2) FP.dconst0 (0 : Int32) (nn_i2d _) O Q) (wd hw 35 rfl) (wd hw 36 rfl) (notFace_of_selects (args := #[]) (mvT C.hZ (wd hw 38 rfl))) (wd hw 38 rfl) (wd hw 37 rfl) (wd hw 2 rfl) (wd hw 39 rfl) (by decide) E_a (lenOf pd_6 rfl) rfl at_58 (n := 61) rfl rfl (by decide) (W := 0) rfl (by decide) (by decide) (by decide) ?_
            clear X eT
            intro T h v L X eT hQ
            obtain ⟨r58, rfl, Nq, KK, O, Q⟩ := hQ
            replace N := N.app Nq
            show Go p e below _ (T.setTop (mkF m 61 #[.val (.int p0), .val (.int p1), .val (.int p2), .val (.int p3), .val (.int p4), .val (.int p5), .val (.ref a), .val (.int (1 : Int32)), .val (.int (2 : Int32)), .val (.int (1 : Int32)), .unset] [(.int r58)]))
            refine Go.pop C X at_61 (n := 62) rfl rfl ?_
            refine Go.iload C X at_62 (n := 64) rfl rfl ?_
            refine Go.iconst C X at_64 (n := 65) rfl (v := (2 : Int32)) rfl ?_
            refine Go.icmp_lt C X at_65 (n1 := 78) (n2 := 68) (by decide) (by decide) rfl (fun hc65 => ?_) (fun hc65 => ?_)
            · exact absurd hc65 (by decide)
            · refine Go.aload C X at_68 (n := 70) rfl rfl rfl ?_
              refine Go.iloadN C X at_70 (n := 71) rfl rfl ?_
              refine Go.i2d C X at_71 (n := 72) rfl ?_
              refine Go.dconst1 C X at_72 (n := 73) rfl ?_
              refine Go.iconst C X at_73 (n := 74) rfl (v := (1 : Int32)) rfl ?_
              have E_a := Q.exa
              refine Go.virt C X eT (argsL := [(.double (FP.i2d p3)), (.double FP.dconst1), (.int (1 : Int32))]) (rest := []) (a := a) (add1 l Z a0 hw n0 _ a (FP.i2d p3) FP.dconst1 (1 : Int32) (nn_i2d _) O Q) (wd hw 35 rfl) (wd hw 36 rfl) (notFace_of_selects (args := #[]) (mvT C.hZ (wd hw 38 rfl))) (wd hw 38 rfl) (wd hw 37 rfl) (wd hw 2 rfl) (wd hw 39 rfl) (by decide) E_a (lenOf pd_6 rfl) rfl at_74 (n := 77) rfl rfl (by decide) (W := 0) rfl (by decide) (by decide) (by decide) ?_
              clear X eT
              intro T h v L X eT hQ
              obtain ⟨r74, rfl, Nq, KK, O, Q⟩ := hQ
              replace N := N.app Nq
              show Go p e below _ (T.setTop (mkF m 77 #[.val (.int p0), .val (.int p1), .val (.int p2), .val (.int p3), .val (.int p4), .val (.int p5), .val (.ref a), .val (.int (1 : Int32)), .val (.int (2 : Int32)), .val (.int (1 : Int32)), .unset] [(.int r74)]))
              refine Go.pop C X at_77 (n := 78) rfl rfl ?_
              refine Go.iload C X at_78 (n := 80) rfl rfl ?_
              refine Go.iconst C X at_80 (n := 81) rfl (v := (3 : Int32)) rfl ?_
              refine Go.icmp_lt C X at_81 (n1 := 97) (n2 := 84) (by decide) (by decide) rfl (fun hc81 => ?_) (fun hc81 => ?_)
              · refine Go.iload C X at_97 (n := 99) rfl rfl ?_
                refine Go.iconst C X at_99 (n := 100) rfl (v := (1 : Int32)) rfl ?_
                refine Go.icmp_lt C X at_100 (n1 := 109) (n2 := 103) (by decide) (by decide) rfl (fun hc100 => ?_) (fun hc100 => ?_)
                · exact absurd hc100 (by decide)
                · refine Go.aload C X at_103 (n := 105) rfl rfl rfl ?_
                  have E_a := Q.exa
                  refine Go.virt C X eT (argsL := []) (rest := []) (a := a) (poll2 l Z a0 hw n0 _ a _ O Q) (wd hw 40 rfl) (wd hw 41 rfl) (notFace_of_selects (args := #[]) (mvT C.hZ (wd hw 43 rfl))) (wd hw 43 rfl) (wd hw 42 rfl) (wd hw 2 rfl) (wd hw 44 rfl) (by decide) E_a (lenOf pd_7 rfl) rfl at_105 (n := 108) rfl rfl (by decide) (W := 0) rfl (by decide) (by decide) (by decide) ?_
                  clear X eT
                  intro T h v L X eT hQ
                  obtain ⟨r105, rfl, Nq, KK, O, Q⟩ := hQ
                  replace N := N.app Nq
                  show Go p e below _ (T.setTop (mkF m 108 #[.val (.int p0), .val (.int p1), .val (.int p2), .val (.int p3), .val (.int p4), .val (.int p5), .val (.ref a), .val (.int (1 : Int32)), .val (.int (2 : Int32)), .val (.int (1 : Int32)), .unset] [(.int r105)]))
                  refine Go.pop C X at_108 (n := 109) rfl rfl ?_
                  refine Go.iload C X at_109 (n := 111) rfl rfl ?_
                  refine Go.iconst C X at_111 (n := 112) rfl (v := (2 : Int32)) rfl ?_
                  refine Go.icmp_lt C X at_112 (n1 := 121) (n2 := 115) (by decide) (by decide) rfl (fun hc112 => ?_) (fun hc112 => ?_)
                  · refine Go.iload C X at_121 (n := 123) rfl rfl ?_
                    refine Go.iconst C X at_123 (n := 124) rfl (v := (3 : Int32)) rfl ?_
                    refine Go.icmp_lt C X at_124 (n1 := 133) (n2 := 127) (by decide) (by decide) rfl (fun hc124 => ?_) (fun hc124 => ?_)
                    · refine Go.iload C X at_133 (n := 135) rfl rfl ?_
                      refine Go.iload C X at_135 (n := 137) rfl rfl ?_
                      refine Go.icmp_ne C X at_137 (n1 := 144) (n2 := 140) (by decide) (by decide) rfl (fun hc137 => ?_) (fun hc137 => ?_)
                      · refine Go.iconst C X at_144 (n := 145) rfl (v := (0 : Int32)) rfl ?_
                        refine Go.istore C X at_145 (n := 147) rfl (l' := #[.val (.int p0), .val (.int p1), .val (.int p2), .val (.int p3), .val (.int p4), .val (.int p5), .val (.ref a), .val (.int (1 : Int32)), .val (.int (2 : Int32)), .val (.int (1 : Int32)), .val (.int (0 : Int32))]) rfl ?_
                        refine Go.iload C X at_147 (n := 149) rfl rfl ?_
                        refine Go.if0_eq C X at_149 (n1 := 166) (n2 := 152) (by decide) (by decide) rfl (fun hc149 => ?_) (fun hc149 => ?_)
                        · exact absurd hc149 (by decide)
                        · refine Go.aload C X at_152 (n := 154) rfl rfl rfl ?_
                          have E_a := Q.exa
                          refine Go.virt C X eT (argsL := []) (rest := []) (a := a) (rm3 l Z a0 hw n0 _ a (1 : Int32) Q.size) (wd hw 21 rfl) (wd hw 22 rfl) (notFace_of_selects (args := #[]) (mvT C.hZ (wd hw 24 rfl))) (wd hw 24 rfl) (wd hw 23 rfl) (wd hw 2 rfl) (wd hw 25 rfl) (by decide) E_a (lenOf pd_5 rfl) rfl at_154 (n := 157) rfl rfl (by decide) (W := 0) rfl (by decide) (by decide) (by decide) ?_
                          clear X eT
                          intro T h' v L X eT hQ
                          obtain ⟨rfl, rfl, hE⟩ := hQ
                          replace hE := hE.symm
                          subst hE
                          replace N := N.app (Fr.nil n0)
                          show Go p e below _ (T.setTop (mkF m 157 #[.val (.int p0), .val (.int p1), .val (.int p2), .val (.int p3), .val (.int p4), .val (.int p5), .val (.ref a), .val (.int (1 : Int32)), .val (.int (2 : Int32)), .val (.int (1 : Int32)), .val (.int (0 : Int32))] [(.int (0 : Int32))]))
                          refine Go.iload C X at_157 (n := 159) rfl rfl ?_
                          refine Go.icmp_ne C X at_159 (n1 := 166) (n2 := 162) (by decide) (by decide) rfl (fun hc159 => ?_) (fun hc159 => ?_)
                          · exact absurd hc159 (by decide)
                          · refine Go.iconst C X at_162 (n := 163) rfl (v := (1 : Int32)) rfl ?_
                            refine Go.goto C X at_163 (n := 167) (by decide) (by decide) ?_
                            refine Go.istore C X at_167 (n := 169) rfl (l' := #[.val (.int p0), .val (.int p1), .val (.int p2), .val (.int p3), .val (.int p4), .val (.int p5), .val (.ref a), .val (.int (1 : Int32)), .val (.int (2 : Int32)), .val (.int (1 : Int32)), .val (.int (0 : Int32))]) rfl ?_
                            refine Go.iload C X at_169 (n := 171) rfl rfl ?_
                            refine Go.iconst C X at_171 (n := 172) rfl (v := (1 : Int32)) rfl ?_
                            refine Go.iand C X at_172 (n := 173) rfl ?_
                            refine Go.if0_eq C X at_173 (n1 := 201) (n2 := 176) (by decide) (by decide) rfl (fun hc173 => ?_) (fun hc173 => ?_)
                            · refine Go.iload C X at_201 (n := 203) rfl rfl ?_
                              refine Go.retN C X eT (Or.inl rfl) (w := (1 : Int32)) (by decide) at_203 (by decide) (by decide) ?_
                              exact ⟨rfl, N⟩
                            · refine Go.aload C X at_176 (n := 178) rfl rfl rfl ?_
                              have E_a := Q.exa
                              refine Go.virt C X eT (argsL := []) (rest := []) (a := a) (rm4 l Z a0 hw n0 _ a _ _ O Q) (wd hw 28 rfl) (wd hw 29 rfl) (notFace_of_selects (args := #[]) (mvT C.hZ (wd hw 31 rfl))) (wd hw 31 rfl) (wd hw 30 rfl) (wd hw 2 rfl) (wd hw 32 rfl) (by decide) E_a (lenOf pd_4 rfl) rfl at_178 (n := 181) rfl rfl (by decide) (W := 0) rfl (by decide) (by decide) (by decide) ?_
                              clear X eT
                              intro T h v L X eT hQ
                              obtain ⟨rfl, Nq, KK, O, Q⟩ := hQ
                              replace N := N.app Nq
                              show Go p e below _ (T.setTop (mkF m 181 #[.val (.int p0), .val (.int p1), .val (.int p2), .val (.int p3), .val (.int p4), .val (.int p5), .val (.ref a), .val (.int (1 : Int32)), .val (.int (2 : Int32)), .val (.int (1 : Int32)), .val (.int (0 : Int32))] []))
                              refine Go.iload C X at_181 (n := 183) rfl rfl ?_
                              refine Go.if0_eq C X at_183 (n1 := 198) (n2 := 186) (by decide) (by decide) rfl (fun hc183 => ?_) (fun hc183 => ?_)
                              · exact absurd hc183 (by decide)
                              · refine Go.aload C X at_186 (n := 188) rfl rfl rfl ?_
                                have E_a := Q.exa
                                refine Go.virt C X eT (argsL := []) (rest := []) (a := a) (rm3 l Z a0 hw n0 _ a (0 : Int32) Q.size) (wd hw 21 rfl) (wd hw 22 rfl) (notFace_of_selects (args := #[]) (mvT C.hZ (wd hw 24 rfl))) (wd hw 24 rfl) (wd hw 23 rfl) (wd hw 2 rfl) (wd hw 25 rfl) (by decide) E_a (lenOf pd_5 rfl) rfl at_188 (n := 191) rfl rfl (by decide) (W := 0) rfl (by decide) (by decide) (by decide) ?_
                                clear X eT
                                intro T h' v L X eT hQ
                                obtain ⟨rfl, rfl, hE⟩ := hQ
                                replace hE := hE.symm
                                subst hE
                                replace N := N.app (Fr.nil n0)
                                show Go p e below _ (T.setTop (mkF m 191 #[.val (.int p0), .val (.int p1), .val (.int p2), .val (.int p3), .val (.int p4), .val (.int p5), .val (.ref a), .val (.int (1 : Int32)), .val (.int (2 : Int32)), .val (.int (1 : Int32)), .val (.int (0 : Int32))] [(.int (1 : Int32))]))
                                refine Go.if0_eq C X at_191 (n1 := 198) (n2 := 194) (by decide) (by decide) rfl (fun hc191 => ?_) (fun hc191 => ?_)
                                · exact absurd hc191 (by decide)
                                · refine Go.iconst C X at_194 (n := 195) rfl (v := (1 : Int32)) rfl ?_
                                  refine Go.goto C X at_195 (n := 199) (by decide) (by decide) ?_
                                  refine Go.istore C X at_199 (n := 201) rfl (l' := #[.val (.int p0), .val (.int p1), .val (.int p2), .val (.int p3), .val (.int p4), .val (.int p5), .val (.ref a), .val (.int (1 : Int32)), .val (.int (2 : Int32)), .val (.int (1 : Int32)), .val (.int (0 : Int32))]) rfl ?_
                                  refine Go.iload C X at_201 (n := 203) rfl rfl ?_
                                  refine Go.retN C X eT (Or.inl rfl) (w := (1 : Int32)) (by decide) at_203 (by decide) (by decide) ?_
                                  exact ⟨rfl, N⟩
                      · exact absurd hc137 (by decide)
                    · exact absurd hc124 (by decide)
                  · exact absurd hc112 (by decide)
              · exact absurd hc81 (by decide)
        · exact absurd hc39 (by decide)
      · show Go p e below _ (T.setTop (mkF m 33 #[.val (.int p0), .val (.int p1), .val (.int p2), .val (.int p3), .val (.int p4), .val (.int p5), .val (.ref a), .val (.int (1 : Int32)), .val (.int (2 : Int32)), .unset, .unset] [(.int (2 : Int32))]))
        refine Go.istore C X at_33 (n := 35) rfl (l' := #[.val (.int p0), .val (.int p1), .val (.int p2), .val (.int p3), .val (.int p4), .val (.int p5), .val (.ref a), .val (.int (1 : Int32)), .val (.int (2 : Int32)), .val (.int (2 : Int32)), .unset]) rfl ?_
        refine Go.iload C X at_35 (n := 37) rfl rfl ?_
        refine Go.iload C X at_37 (n := 39) rfl rfl ?_
        refine Go.icmp_le C X at_39 (n1 := 46) (n2 := 42) (by decide) (by decide) rfl (fun hc39 => ?_) (fun hc39 => ?_)
        · refine Go.iload C X at_46 (n := 48) rfl rfl ?_
          refine Go.iconst C X at_48 (n := 49) rfl (v := (1 : Int32)) rfl ?_
          refine Go.icmp_lt C X at_49 (n1 := 62) (n2 := 52) (by decide) (by decide) rfl (fun hc49 => ?_) (fun hc49 => ?_)
          · exact absurd hc49 (by decide)
          · refine Go.aload C X at_52 (n := 54) rfl rfl rfl ?_
            refine Go.iloadN C X at_54 (n := 55) rfl rfl ?_
            refine Go.i2d C X at_55 (n := 56) rfl ?_
            refine Go.dconst0 C X at_56 (n := 57) rfl ?_
            refine Go.iconst C X at_57 (n := 58) rfl (v := (0 : Int32)) rfl ?_
            have E_a := Q.exa
            refine Go.virt C X eT (argsL := [(.double (FP.i2d p2)), (.double FP.dconst0), (.int (0 : Int32))]) (rest := []) (a := a) (add0 l Z a0 hw n0 _ a (FP.i2d p2) FP.dconst0 (0 : Int32) (nn_i2d _) O Q) (wd hw 35 rfl) (wd hw 36 rfl) (notFace_of_selects (args := #[]) (mvT C.hZ (wd hw 38 rfl))) (wd hw 38 rfl) (wd hw 37 rfl) (wd hw 2 rfl) (wd hw 39 rfl) (by decide) E_a (lenOf pd_6 rfl) rfl at_58 (n := 61) rfl rfl (by decide) (W := 0) rfl (by decide) (by decide) (by decide) ?_
            clear X eT
            intro T h v L X eT hQ
            obtain ⟨r58, rfl, Nq, KK, O, Q⟩ := hQ
            replace N := N.app Nq
            show Go p e below _ (T.setTop (mkF m 61 #[.val (.int p0), .val (.int p1), .val (.int p2), .val (.int p3), .val (.int p4), .val (.int p5), .val (.ref a), .val (.int (1 : Int32)), .val (.int (2 : Int32)), .val (.int (2 : Int32)), .unset] [(.int r58)]))
            refine Go.pop C X at_61 (n := 62) rfl rfl ?_
            refine Go.iload C X at_62 (n := 64) rfl rfl ?_
            refine Go.iconst C X at_64 (n := 65) rfl (v := (2 : Int32)) rfl ?_
            refine Go.icmp_lt C X at_65 (n1 := 78) (n2 := 68) (by decide) (by decide) rfl (fun hc65 => ?_) (fun hc65 => ?_)
            · exact absurd hc65 (by decide)
            · refine Go.aload C X at_68 (n := 70) rfl rfl rfl ?_
              refine Go.iloadN C X at_70 (n := 71) rfl rfl ?_
              refine Go.i2d C X at_71 (n := 72) rfl ?_
              refine Go.dconst1 C X at_72 (n := 73) rfl ?_
              refine Go.iconst C X at_73 (n := 74) rfl (v := (1 : Int32)) rfl ?_
              have E_a := Q.exa
              refine Go.virt C X eT (argsL := [(.double (FP.i2d p3)), (.double FP.dconst1), (.int (1 : Int32))]) (rest := []) (a := a) (add1 l Z a0 hw n0 _ a (FP.i2d p3) FP.dconst1 (1 : Int32) (nn_i2d _) O Q) (wd hw 35 rfl) (wd hw 36 rfl) (notFace_of_selects (args := #[]) (mvT C.hZ (wd hw 38 rfl))) (wd hw 38 rfl) (wd hw 37 rfl) (wd hw 2 rfl) (wd hw 39 rfl) (by decide) E_a (lenOf pd_6 rfl) rfl at_74 (n := 77) rfl rfl (by decide) (W := 0) rfl (by decide) (by decide) (by decide) ?_
              clear X eT
              intro T h v L X eT hQ
              obtain ⟨r74, rfl, Nq, KK, O, Q⟩ := hQ
              replace N := N.app Nq
              show Go p e below _ (T.setTop (mkF m 77 #[.val (.int p0), .val (.int p1), .val (.int p2), .val (.int p3), .val (.int p4), .val (.int p5), .val (.ref a), .val (.int (1 : Int32)), .val (.int (2 : Int32)), .val (.int (2 : Int32)), .unset] [(.int r74)]))
              refine Go.pop C X at_77 (n := 78) rfl rfl ?_
              refine Go.iload C X at_78 (n := 80) rfl rfl ?_
              refine Go.iconst C X at_80 (n := 81) rfl (v := (3 : Int32)) rfl ?_
              refine Go.icmp_lt C X at_81 (n1 := 97) (n2 := 84) (by decide) (by decide) rfl (fun hc81 => ?_) (fun hc81 => ?_)
              · refine Go.iload C X at_97 (n := 99) rfl rfl ?_
                refine Go.iconst C X at_99 (n := 100) rfl (v := (1 : Int32)) rfl ?_
                refine Go.icmp_lt C X at_100 (n1 := 109) (n2 := 103) (by decide) (by decide) rfl (fun hc100 => ?_) (fun hc100 => ?_)
                · exact absurd hc100 (by decide)
                · refine Go.aload C X at_103 (n := 105) rfl rfl rfl ?_
                  have E_a := Q.exa
                  refine Go.virt C X eT (argsL := []) (rest := []) (a := a) (poll2 l Z a0 hw n0 _ a _ O Q) (wd hw 40 rfl) (wd hw 41 rfl) (notFace_of_selects (args := #[]) (mvT C.hZ (wd hw 43 rfl))) (wd hw 43 rfl) (wd hw 42 rfl) (wd hw 2 rfl) (wd hw 44 rfl) (by decide) E_a (lenOf pd_7 rfl) rfl at_105 (n := 108) rfl rfl (by decide) (W := 0) rfl (by decide) (by decide) (by decide) ?_
                  clear X eT
                  intro T h v L X eT hQ
                  obtain ⟨r105, rfl, Nq, KK, O, Q⟩ := hQ
                  replace N := N.app Nq
                  show Go p e below _ (T.setTop (mkF m 108 #[.val (.int p0), .val (.int p1), .val (.int p2), .val (.int p3), .val (.int p4), .val (.int p5), .val (.ref a), .val (.int (1 : Int32)), .val (.int (2 : Int32)), .val (.int (2 : Int32)), .unset] [(.int r105)]))
                  refine Go.pop C X at_108 (n := 109) rfl rfl ?_
                  refine Go.iload C X at_109 (n := 111) rfl rfl ?_
                  refine Go.iconst C X at_111 (n := 112) rfl (v := (2 : Int32)) rfl ?_
                  refine Go.icmp_lt C X at_112 (n1 := 121) (n2 := 115) (by decide) (by decide) rfl (fun hc112 => ?_) (fun hc112 => ?_)
                  · exact absurd hc112 (by decide)
                  · refine Go.aload C X at_115 (n := 117) rfl rfl rfl ?_
                    have E_a := Q.exa
                    refine Go.virt C X eT (argsL := []) (rest := []) (a := a) (poll1 l Z a0 hw n0 _ a _ O Q) (wd hw 40 rfl) (wd hw 41 rfl) (notFace_of_selects (args := #[]) (mvT C.hZ (wd hw 43 rfl))) (wd hw 43 rfl) (wd hw 42 rfl) (wd hw 2 rfl) (wd hw 44 rfl) (by decide) E_a (lenOf pd_7 rfl) rfl at_117 (n := 120) rfl rfl (by decide) (W := 0) rfl (by decide) (by decide) (by decide) ?_
                    clear X eT
                    intro T h v L X eT hQ
                    obtain ⟨r117, rfl, Nq, KK, O, Q⟩ := hQ
                    replace N := N.app Nq
                    show Go p e below _ (T.setTop (mkF m 120 #[.val (.int p0), .val (.int p1), .val (.int p2), .val (.int p3), .val (.int p4), .val (.int p5), .val (.ref a), .val (.int (1 : Int32)), .val (.int (2 : Int32)), .val (.int (2 : Int32)), .unset] [(.int r117)]))
                    refine Go.pop C X at_120 (n := 121) rfl rfl ?_
                    refine Go.iload C X at_121 (n := 123) rfl rfl ?_
                    refine Go.iconst C X at_123 (n := 124) rfl (v := (3 : Int32)) rfl ?_
                    refine Go.icmp_lt C X at_124 (n1 := 133) (n2 := 127) (by decide) (by decide) rfl (fun hc124 => ?_) (fun hc124 => ?_)
                    · refine Go.iload C X at_133 (n := 135) rfl rfl ?_
                      refine Go.iload C X at_135 (n := 137) rfl rfl ?_
                      refine Go.icmp_ne C X at_137 (n1 := 144) (n2 := 140) (by decide) (by decide) rfl (fun hc137 => ?_) (fun hc137 => ?_)
                      · exact absurd hc137 (by decide)
                      · refine Go.iconst C X at_140 (n := 141) rfl (v := (1 : Int32)) rfl ?_
                        refine Go.goto C X at_141 (n := 145) (by decide) (by decide) ?_
                        refine Go.istore C X at_145 (n := 147) rfl (l' := #[.val (.int p0), .val (.int p1), .val (.int p2), .val (.int p3), .val (.int p4), .val (.int p5), .val (.ref a), .val (.int (1 : Int32)), .val (.int (2 : Int32)), .val (.int (2 : Int32)), .val (.int (1 : Int32))]) rfl ?_
                        refine Go.iload C X at_147 (n := 149) rfl rfl ?_
                        refine Go.if0_eq C X at_149 (n1 := 166) (n2 := 152) (by decide) (by decide) rfl (fun hc149 => ?_) (fun hc149 => ?_)
                        · exact absurd hc149 (by decide)
                        · refine Go.aload C X at_152 (n := 154) rfl rfl rfl ?_
                          have E_a := Q.exa
                          refine Go.virt C X eT (argsL := []) (rest := []) (a := a) (rm3 l Z a0 hw n0 _ a (0 : Int32) Q.size) (wd hw 21 rfl) (wd hw 22 rfl) (notFace_of_selects (args := #[]) (mvT C.hZ (wd hw 24 rfl))) (wd hw 24 rfl) (wd hw 23 rfl) (wd hw 2 rfl) (wd hw 25 rfl) (by decide) E_a (lenOf pd_5 rfl) rfl at_154 (n := 157) rfl rfl (by decide) (W := 0) rfl (by decide) (by decide) (by decide) ?_
                          clear X eT
                          intro T h' v L X eT hQ
                          obtain ⟨rfl, rfl, hE⟩ := hQ
                          replace hE := hE.symm
                          subst hE
                          replace N := N.app (Fr.nil n0)
                          show Go p e below _ (T.setTop (mkF m 157 #[.val (.int p0), .val (.int p1), .val (.int p2), .val (.int p3), .val (.int p4), .val (.int p5), .val (.ref a), .val (.int (1 : Int32)), .val (.int (2 : Int32)), .val (.int (2 : Int32)), .val (.int (1 : Int32))] [(.int (1 : Int32))]))
                          refine Go.iload C X at_157 (n := 159) rfl rfl ?_
                          refine Go.icmp_ne C X at_159 (n1 := 166) (n2 := 162) (by decide) (by decide) rfl (fun hc159 => ?_) (fun hc159 => ?_)
                          · exact absurd hc159 (by decide)
                          · refine Go.iconst C X at_162 (n := 163) rfl (v := (1 : Int32)) rfl ?_
                            refine Go.goto C X at_163 (n := 167) (by decide) (by decide) ?_
                            refine Go.istore C X at_167 (n := 169) rfl (l' := #[.val (.int p0), .val (.int p1), .val (.int p2), .val (.int p3), .val (.int p4), .val (.int p5), .val (.ref a), .val (.int (1 : Int32)), .val (.int (2 : Int32)), .val (.int (2 : Int32)), .val (.int (1 : Int32))]) rfl ?_
                            refine Go.iload C X at_169 (n := 171) rfl rfl ?_
                            refine Go.iconst C X at_171 (n := 172) rfl (v := (1 : Int32)) rfl ?_
                            refine Go.iand C X at_172 (n := 173) rfl ?_
                            refine Go.if0_eq C X at_173 (n1 := 201) (n2 := 176) (by decide) (by decide) rfl (fun hc173 => ?_) (fun hc173 => ?_)
                            · refine Go.iload C X at_201 (n := 203) rfl rfl ?_
                              refine Go.retN C X eT (Or.inl rfl) (w := (1 : Int32)) (by decide) at_203 (by decide) (by decide) ?_
                              exact ⟨rfl, N⟩
                            · refine Go.aload C X at_176 (n := 178) rfl rfl rfl ?_
                              have E_a := Q.exa
                              refine Go.virt C X eT (argsL := []) (rest := []) (a := a) (rm4 l Z a0 hw n0 _ a _ _ O Q) (wd hw 28 rfl) (wd hw 29 rfl) (notFace_of_selects (args := #[]) (mvT C.hZ (wd hw 31 rfl))) (wd hw 31 rfl) (wd hw 30 rfl) (wd hw 2 rfl) (wd hw 32 rfl) (by decide) E_a (lenOf pd_4 rfl) rfl at_178 (n := 181) rfl rfl (by decide) (W := 0) rfl (by decide) (by decide) (by decide) ?_
                              clear X eT
                              intro T h v L X eT hQ
                              obtain ⟨rfl, Nq, KK, O, Q⟩ := hQ
                              replace N := N.app Nq
                              show Go p e below _ (T.setTop (mkF m 181 #[.val (.int p0), .val (.int p1), .val (.int p2), .val (.int p3), .val (.int p4), .val (.int p5), .val (.ref a), .val (.int (1 : Int32)), .val (.int (2 : Int32)), .val (.int (2 : Int32)), .val (.int (1 : Int32))] []))
                              refine Go.iload C X at_181 (n := 183) rfl rfl ?_
                              refine Go.if0_eq C X at_183 (n1 := 198) (n2 := 186) (by decide) (by decide) rfl (fun hc183 => ?_) (fun hc183 => ?_)
                              · exact absurd hc183 (by decide)
                              · refine Go.aload C X at_186 (n := 188) rfl rfl rfl ?_
                                have E_a := Q.exa
                                refine Go.virt C X eT (argsL := []) (rest := []) (a := a) (rm3 l Z a0 hw n0 _ a (0 : Int32) Q.size) (wd hw 21 rfl) (wd hw 22 rfl) (notFace_of_selects (args := #[]) (mvT C.hZ (wd hw 24 rfl))) (wd hw 24 rfl) (wd hw 23 rfl) (wd hw 2 rfl) (wd hw 25 rfl) (by decide) E_a (lenOf pd_5 rfl) rfl at_188 (n := 191) rfl rfl (by decide) (W := 0) rfl (by decide) (by decide) (by decide) ?_
                                clear X eT
                                intro T h' v L X eT hQ
                                obtain ⟨rfl, rfl, hE⟩ := hQ
                                replace hE := hE.symm
                                subst hE
                                replace N := N.app (Fr.nil n0)
                                show Go p e below _ (T.setTop (mkF m 191 #[.val (.int p0), .val (.int p1), .val (.int p2), .val (.int p3), .val (.int p4), .val (.int p5), .val (.ref a), .val (.int (1 : Int32)), .val (.int (2 : Int32)), .val (.int (2 : Int32)), .val (.int (1 : Int32))] [(.int (1 : Int32))]))
                                refine Go.if0_eq C X at_191 (n1 := 198) (n2 := 194) (by decide) (by decide) rfl (fun hc191 => ?_) (fun hc191 => ?_)
                                · exact absurd hc191 (by decide)
                                · refine Go.iconst C X at_194 (n := 195) rfl (v := (1 : Int32)) rfl ?_
                                  refine Go.goto C X at_195 (n := 199) (by decide) (by decide) ?_
                                  refine Go.istore C X at_199 (n := 201) rfl (l' := #[.val (.int p0), .val (.int p1), .val (.int p2), .val (.int p3), .val (.int p4), .val (.int p5), .val (.ref a), .val (.int (1 : Int32)), .val (.int (2 : Int32)), .val (.int (2 : Int32)), .val (.int (1 : Int32))]) rfl ?_
                                  refine Go.iload C X at_201 (n := 203) rfl rfl ?_
                                  refine Go.retN C X eT (Or.inl rfl) (w := (1 : Int32)) (by decide) at_203 (by decide) (by decide) ?_
                                  exact ⟨rfl, N⟩
                    · exact absurd hc124 (by decide)
              · exact absurd hc81 (by decide)
        · exact absurd hc39 (by decide)
      · show Go p e below _ (T.setTop (mkF m 33 #[.val (.int p0), .val (.int p1), .val (.int p2), .val (.int p3), .val (.int p4), .val (.int p5), .val (.ref a), .val (.int (1 : Int32)), .val (.int (2 : Int32)), .unset, .unset] [(.int (3 : Int32))]))
        refine Go.istore C X at_33 (n := 35) rfl (l' := #[.val (.int p0), .val (.int p1), .val (.int p2), .val (.int p3), .val (.int p4), .val (.int p5), .val (.ref a), .val (.int (1 : Int32)), .val (.int (2 : Int32)), .val (.int (3 : Int32)), .unset]) rfl ?_
        refine Go.iload C X at_35 (n := 37) rfl rfl ?_
        refine Go.iload C X at_37 (n := 39) rfl rfl ?_
        refine Go.icmp_le C X at_39 (n1 := 46) (n2 := 42) (by decide) (by decide) rfl (fun hc39 => ?_) (fun hc39 => ?_)
        · exact absurd hc39 (by decide)
        · refine Go.iload C X at_42 (n := 44) rfl rfl ?_
          refine Go.istore C X at_44 (n := 46) rfl (l' := #[.val (.int p0), .val (.int p1), .val (.int p2), .val (.int p3), .val (.int p4), .val (.int p5), .val (.ref a), .val (.int (1 : Int32)), .val (.int (2 : Int32)), .val (.int (2 : Int32)), .unset]) rfl ?_
          refine Go.iload C X at_46 (n := 48) rfl rfl ?_
          refine Go.iconst C X at_48 (n := 49) rfl (v := (1 : Int32)) rfl ?_
          refine Go.icmp_lt C X at_49 (n1 := 62) (n2 := 52) (by decide) (by decide) rfl (fun hc49 => ?_) (fun hc49 => ?_)
          · exact absurd hc49 (by decide)
          · refine Go.aload C X at_52 (n := 54) rfl rfl rfl ?_
            refine Go.iloadN C X at_54 (n := 55) rfl rfl ?_
            refine Go.i2d C X at_55 (n := 56) rfl ?_
            refine Go.dconst0 C X at_56 (n := 57) rfl ?_
            refine Go.iconst C X at_57 (n := 58) rfl (v := (0 : Int32)) rfl ?_
            have E_a := Q.exa
            refine Go.virt C X eT (argsL := [(.double (FP.i2d p2)), (.double FP.dconst0), (.int (0 : Int32))]) (rest := []) (a := a) (add0 l Z a0 hw n0 _ a (FP.i2d p2) FP.dconst0 (0 : Int32) (nn_i2d _) O Q) (wd hw 35 rfl) (wd hw 36 rfl) (notFace_of_selects (args := #[]) (mvT C.hZ (wd hw 38 rfl))) (wd hw 38 rfl) (wd hw 37 rfl) (wd hw 2 rfl) (wd hw 39 rfl) (by decide) E_a (lenOf pd_6 rfl) rfl at_58 (n := 61) rfl rfl (by decide) (W := 0) rfl (by decide) (by decide) (by decide) ?_
            clear X eT
            intro T h v L X eT hQ
            obtain ⟨r58, rfl, Nq, KK, O, Q⟩ := hQ
            replace N := N.app Nq
            show Go p e below _ (T.setTop (mkF m 61 #[.val (.int p0), .val (.int p1), .val (.int p2), .val (.int p3), .val (.int p4), .val (.int p5), .val (.ref a), .val (.int (1 : Int32)), .val (.int (2 : Int32)), .val (.int (2 : Int32)), .unset] [(.int r58)]))
            refine Go.pop C X at_61 (n := 62) rfl rfl ?_
            refine Go.iload C X at_62 (n := 64) rfl rfl ?_
            refine Go.iconst C X at_64 (n := 65) rfl (v := (2 : Int32)) rfl ?_
            refine Go.icmp_lt C X at_65 (n1 := 78) (n2 := 68) (by decide) (by decide) rfl (fun hc65 => ?_) (fun hc65 => ?_)
            · exact absurd hc65 (by decide)
            · refine Go.aload C X at_68 (n := 70) rfl rfl rfl ?_
              refine Go.iloadN C X at_70 (n := 71) rfl rfl ?_
              refine Go.i2d C X at_71 (n := 72) rfl ?_
              refine Go.dconst1 C X at_72 (n := 73) rfl ?_
              refine Go.iconst C X at_73 (n := 74) rfl (v := (1 : Int32)) rfl ?_
              have E_a := Q.exa
              refine Go.virt C X eT (argsL := [(.double (FP.i2d p3)), (.double FP.dconst1), (.int (1 : Int32))]) (rest := []) (a := a) (add1 l Z a0 hw n0 _ a (FP.i2d p3) FP.dconst1 (1 : Int32) (nn_i2d _) O Q) (wd hw 35 rfl) (wd hw 36 rfl) (notFace_of_selects (args := #[]) (mvT C.hZ (wd hw 38 rfl))) (wd hw 38 rfl) (wd hw 37 rfl) (wd hw 2 rfl) (wd hw 39 rfl) (by decide) E_a (lenOf pd_6 rfl) rfl at_74 (n := 77) rfl rfl (by decide) (W := 0) rfl (by decide) (by decide) (by decide) ?_
              clear X eT
              intro T h v L X eT hQ
              obtain ⟨r74, rfl, Nq, KK, O, Q⟩ := hQ
              replace N := N.app Nq
              show Go p e below _ (T.setTop (mkF m 77 #[.val (.int p0), .val (.int p1), .val (.int p2), .val (.int p3), .val (.int p4), .val (.int p5), .val (.ref a), .val (.int (1 : Int32)), .val (.int (2 : Int32)), .val (.int (2 : Int32)), .unset] [(.int r74)]))
              refine Go.pop C X at_77 (n := 78) rfl rfl ?_
              refine Go.iload C X at_78 (n := 80) rfl rfl ?_
              refine Go.iconst C X at_80 (n := 81) rfl (v := (3 : Int32)) rfl ?_
              refine Go.icmp_lt C X at_81 (n1 := 97) (n2 := 84) (by decide) (by decide) rfl (fun hc81 => ?_) (fun hc81 => ?_)
              · refine Go.iload C X at_97 (n := 99) rfl rfl ?_
                refine Go.iconst C X at_99 (n := 100) rfl (v := (1 : Int32)) rfl ?_
                refine Go.icmp_lt C X at_100 (n1 := 109) (n2 := 103) (by decide) (by decide) rfl (fun hc100 => ?_) (fun hc100 => ?_)
                · exact absurd hc100 (by decide)
                · refine Go.aload C X at_103 (n := 105) rfl rfl rfl ?_
                  have E_a := Q.exa
                  refine Go.virt C X eT (argsL := []) (rest := []) (a := a) (poll2 l Z a0 hw n0 _ a _ O Q) (wd hw 40 rfl) (wd hw 41 rfl) (notFace_of_selects (args := #[]) (mvT C.hZ (wd hw 43 rfl))) (wd hw 43 rfl) (wd hw 42 rfl) (wd hw 2 rfl) (wd hw 44 rfl) (by decide) E_a (lenOf pd_7 rfl) rfl at_105 (n := 108) rfl rfl (by decide) (W := 0) rfl (by decide) (by decide) (by decide) ?_
                  clear X eT
                  intro T h v L X eT hQ
                  obtain ⟨r105, rfl, Nq, KK, O, Q⟩ := hQ
                  replace N := N.app Nq
                  show Go p e below _ (T.setTop (mkF m 108 #[.val (.int p0), .val (.int p1), .val (.int p2), .val (.int p3), .val (.int p4), .val (.int p5), .val (.ref a), .val (.int (1 : Int32)), .val (.int (2 : Int32)), .val (.int (2 : Int32)), .unset] [(.int r105)]))
                  refine Go.pop C X at_108 (n := 109) rfl rfl ?_
                  refine Go.iload C X at_109 (n := 111) rfl rfl ?_
                  refine Go.iconst C X at_111 (n := 112) rfl (v := (2 : Int32)) rfl ?_
                  refine Go.icmp_lt C X at_112 (n1 := 121) (n2 := 115) (by decide) (by decide) rfl (fun hc112 => ?_) (fun hc112 => ?_)
                  · exact absurd hc112 (by decide)
                  · refine Go.aload C X at_115 (n := 117) rfl rfl rfl ?_
                    have E_a := Q.exa
                    refine Go.virt C X eT (argsL := []) (rest := []) (a := a) (poll1 l Z a0 hw n0 _ a _ O Q) (wd hw 40 rfl) (wd hw 41 rfl) (notFace_of_selects (args := #[]) (mvT C.hZ (wd hw 43 rfl))) (wd hw 43 rfl) (wd hw 42 rfl) (wd hw 2 rfl) (wd hw 44 rfl) (by decide) E_a (lenOf pd_7 rfl) rfl at_117 (n := 120) rfl rfl (by decide) (W := 0) rfl (by decide) (by decide) (by decide) ?_
                    clear X eT
                    intro T h v L X eT hQ
                    obtain ⟨r117, rfl, Nq, KK, O, Q⟩ := hQ
                    replace N := N.app Nq
                    show Go p e below _ (T.setTop (mkF m 120 #[.val (.int p0), .val (.int p1), .val (.int p2), .val (.int p3), .val (.int p4), .val (.int p5), .val (.ref a), .val (.int (1 : Int32)), .val (.int (2 : Int32)), .val (.int (2 : Int32)), .unset] [(.int r117)]))
                    refine Go.pop C X at_120 (n := 121) rfl rfl ?_
                    refine Go.iload C X at_121 (n := 123) rfl rfl ?_
                    refine Go.iconst C X at_123 (n := 124) rfl (v := (3 : Int32)) rfl ?_
                    refine Go.icmp_lt C X at_124 (n1 := 133) (n2 := 127) (by decide) (by decide) rfl (fun hc124 => ?_) (fun hc124 => ?_)
                    · refine Go.iload C X at_133 (n := 135) rfl rfl ?_
                      refine Go.iload C X at_135 (n := 137) rfl rfl ?_
                      refine Go.icmp_ne C X at_137 (n1 := 144) (n2 := 140) (by decide) (by decide) rfl (fun hc137 => ?_) (fun hc137 => ?_)
                      · exact absurd hc137 (by decide)
                      · refine Go.iconst C X at_140 (n := 141) rfl (v := (1 : Int32)) rfl ?_
                        refine Go.goto C X at_141 (n := 145) (by decide) (by decide) ?_
                        refine Go.istore C X at_145 (n := 147) rfl (l' := #[.val (.int p0), .val (.int p1), .val (.int p2), .val (.int p3), .val (.int p4), .val (.int p5), .val (.ref a), .val (.int (1 : Int32)), .val (.int (2 : Int32)), .val (.int (2 : Int32)), .val (.int (1 : Int32))]) rfl ?_
                        refine Go.iload C X at_147 (n := 149) rfl rfl ?_
                        refine Go.if0_eq C X at_149 (n1 := 166) (n2 := 152) (by decide) (by decide) rfl (fun hc149 => ?_) (fun hc149 => ?_)
                        · exact absurd hc149 (by decide)
                        · refine Go.aload C X at_152 (n := 154) rfl rfl rfl ?_
                          have E_a := Q.exa
                          refine Go.virt C X eT (argsL := []) (rest := []) (a := a) (rm3 l Z a0 hw n0 _ a (0 : Int32) Q.size) (wd hw 21 rfl) (wd hw 22 rfl) (notFace_of_selects (args := #[]) (mvT C.hZ (wd hw 24 rfl))) (wd hw 24 rfl) (wd hw 23 rfl) (wd hw 2 rfl) (wd hw 25 rfl) (by decide) E_a (lenOf pd_5 rfl) rfl at_154 (n := 157) rfl rfl (by decide) (W := 0) rfl (by decide) (by decide) (by decide) ?_
                          clear X eT
                          intro T h' v L X eT hQ
                          obtain ⟨rfl, rfl, hE⟩ := hQ
                          replace hE := hE.symm
                          subst hE
                          replace N := N.app (Fr.nil n0)
                          show Go p e below _ (T.setTop (mkF m 157 #[.val (.int p0), .val (.int p1), .val (.int p2), .val (.int p3), .val (.int p4), .val (.int p5), .val (.ref a), .val (.int (1 : Int32)), .val (.int (2 : Int32)), .val (.int (2 : Int32)), .val (.int (1 : Int32))] [(.int (1 : Int32))]))
                          refine Go.iload C X at_157 (n := 159) rfl rfl ?_
                          refine Go.icmp_ne C X at_159 (n1 := 166) (n2 := 162) (by decide) (by decide) rfl (fun hc159 => ?_) (fun hc159 => ?_)
                          · exact absurd hc159 (by decide)
                          · refine Go.iconst C X at_162 (n := 163) rfl (v := (1 : Int32)) rfl ?_
                            refine Go.goto C X at_163 (n := 167) (by decide) (by decide) ?_
                            refine Go.istore C X at_167 (n := 169) rfl (l' := #[.val (.int p0), .val (.int p1), .val (.int p2), .val (.int p3), .val (.int p4), .val (.int p5), .val (.ref a), .val (.int (1 : Int32)), .val (.int (2 : Int32)), .val (.int (2 : Int32)), .val (.int (1 : Int32))]) rfl ?_
                            refine Go.iload C X at_169 (n := 171) rfl rfl ?_
                            refine Go.iconst C X at_171 (n := 172) rfl (v := (1 : Int32)) rfl ?_
                            refine Go.iand C X at_172 (n := 173) rfl ?_
                            refine Go.if0_eq C X at_173 (n1 := 201) (n2 := 176) (by decide) (by decide) rfl (fun hc173 => ?_) (fun hc173 => ?_)
                            · refine Go.iload C X at_201 (n := 203) rfl rfl ?_
                              refine Go.retN C X eT (Or.inl rfl) (w := (1 : Int32)) (by decide) at_203 (by decide) (by decide) ?_
                              exact ⟨rfl, N⟩
                            · refine Go.aload C X at_176 (n := 178) rfl rfl rfl ?_
                              have E_a := Q.exa
                              refine Go.virt C X eT (argsL := []) (rest := []) (a := a) (rm4 l Z a0 hw n0 _ a _ _ O Q) (wd hw 28 rfl) (wd hw 29 rfl) (notFace_of_selects (args := #[]) (mvT C.hZ (wd hw 31 rfl))) (wd hw 31 rfl) (wd hw 30 rfl) (wd hw 2 rfl) (wd hw 32 rfl) (by decide) E_a (lenOf pd_4 rfl) rfl at_178 (n := 181) rfl rfl (by decide) (W := 0) rfl (by decide) (by decide) (by decide) ?_
                              clear X eT
                              intro T h v L X eT hQ
                              obtain ⟨rfl, Nq, KK, O, Q⟩ := hQ
                              replace N := N.app Nq
                              show Go p e below _ (T.setTop (mkF m 181 #[.val (.int p0), .val (.int p1), .val (.int p2), .val (.int p3), .val (.int p4), .val (.int p5), .val (.ref a), .val (.int (1 : Int32)), .val (.int (2 : Int32)), .val (.int (2 : Int32)), .val (.int (1 : Int32))] []))
                              refine Go.iload C X at_181 (n := 183) rfl rfl ?_
                              refine Go.if0_eq C X at_183 (n1 := 198) (n2 := 186) (by decide) (by decide) rfl (fun hc183 => ?_) (fun hc183 => ?_)
                              · exact absurd hc183 (by decide)
                              · refine Go.aload C X at_186 (n := 188) rfl rfl rfl ?_
                                have E_a := Q.exa
                                refine Go.virt C X eT (argsL := []) (rest := []) (a := a) (rm3 l Z a0 hw n0 _ a (0 : Int32) Q.size) (wd hw 21 rfl) (wd hw 22 rfl) (notFace_of_selects (args := #[]) (mvT C.hZ (wd hw 24 rfl))) (wd hw 24 rfl) (wd hw 23 rfl) (wd hw 2 rfl) (wd hw 25 rfl) (by decide) E_a (lenOf pd_5 rfl) rfl at_188 (n := 191) rfl rfl (by decide) (W := 0) rfl (by decide) (by decide) (by decide) ?_
                                clear X eT
                                intro T h' v L X eT hQ
                                obtain ⟨rfl, rfl, hE⟩ := hQ
                                replace hE := hE.symm
                                subst hE
                                replace N := N.app (Fr.nil n0)
                                show Go p e below _ (T.setTop (mkF m 191 #[.val (.int p0), .val (.int p1), .val (.int p2), .val (.int p3), .val (.int p4), .val (.int p5), .val (.ref a), .val (.int (1 : Int32)), .val (.int (2 : Int32)), .val (.int (2 : Int32)), .val (.int (1 : Int32))] [(.int (1 : Int32))]))
                                refine Go.if0_eq C X at_191 (n1 := 198) (n2 := 194) (by decide) (by decide) rfl (fun hc191 => ?_) (fun hc191 => ?_)
                                · exact absurd hc191 (by decide)
                                · refine Go.iconst C X at_194 (n := 195) rfl (v := (1 : Int32)) rfl ?_
                                  refine Go.goto C X at_195 (n := 199) (by decide) (by decide) ?_
                                  refine Go.istore C X at_199 (n := 201) rfl (l' := #[.val (.int p0), .val (.int p1), .val (.int p2), .val (.int p3), .val (.int p4), .val (.int p5), .val (.ref a), .val (.int (1 : Int32)), .val (.int (2 : Int32)), .val (.int (2 : Int32)), .val (.int (1 : Int32))]) rfl ?_
                                  refine Go.iload C X at_201 (n := 203) rfl rfl ?_
                                  refine Go.retN C X eT (Or.inl rfl) (w := (1 : Int32)) (by decide) at_203 (by decide) (by decide) ?_
                                  exact ⟨rfl, N⟩
                    · exact absurd hc124 (by decide)
              · exact absurd hc81 (by decide)
    · exact absurd hc24 (by decide)
  · show Go p e below _ (T.setTop (mkF m 19 #[.val (.int p0), .val (.int p1), .val (.int p2), .val (.int p3), .val (.int p4), .val (.int p5), .val (.ref a), .val (.int (1 : Int32)), .unset, .unset, .unset] [(.int (3 : Int32))]))
    refine Go.istore C X at_19 (n := 21) rfl (l' := #[.val (.int p0), .val (.int p1), .val (.int p2), .val (.int p3), .val (.int p4), .val (.int p5), .val (.ref a), .val (.int (1 : Int32)), .val (.int (3 : Int32)), .unset, .unset]) rfl ?_
    refine Go.iload C X at_21 (n := 23) rfl rfl ?_
    refine Go.iconst C X at_23 (n := 24) rfl (v := (3 : Int32)) rfl ?_
    refine Go.icmp_le C X at_24 (n1 := 30) (n2 := 27) (by decide) (by decide) rfl (fun hc24 => ?_) (fun hc24 => ?_)
    · refine Go.iloadN C X at_30 (n := 31) rfl rfl ?_
      refine Go.iconst C X at_31 (n := 32) rfl (v := (3 : Int32)) rfl ?_
      refine Go.iand C X at_32 (n := 33) rfl ?_
      obtain ⟨u9, qu9⟩ : ∃ z, z = (p1 &&& (3 : Int32)) := ⟨_, rfl⟩
      rw [← qu9]
      have hu9 := own_four (x := u9) (by rw [qu9]; exact own_m3 _)
      clear qu9
      obtain rfl | rfl | rfl | rfl := hu9
      · show Go p e below _ (T.setTop (mkF m 33 #[.val (.int p0), .val (.int p1), .val (.int p2), .val (.int p3), .val (.int p4), .val (.int p5), .val (.ref a), .val (.int (1 : Int32)), .val (.int (3 : Int32)), .unset, .unset] [(.int (0 : Int32))]))
        refine Go.istore C X at_33 (n := 35) rfl (l' := #[.val (.int p0), .val (.int p1), .val (.int p2), .val (.int p3), .val (.int p4), .val (.int p5), .val (.ref a), .val (.int (1 : Int32)), .val (.int (3 : Int32)), .val (.int (0 : Int32)), .unset]) rfl ?_
        refine Go.iload C X at_35 (n := 37) rfl rfl ?_
        refine Go.iload C X at_37 (n := 39) rfl rfl ?_
        refine Go.icmp_le C X at_39 (n1 := 46) (n2 := 42) (by decide) (by decide) rfl (fun hc39 => ?_) (fun hc39 => ?_)
        · refine Go.iload C X at_46 (n := 48) rfl rfl ?_
          refine Go.iconst C X at_48 (n := 49) rfl (v := (1 : Int32)) rfl ?_
          refine Go.icmp_lt C X at_49 (n1 := 62) (n2 := 52) (by decide) (by decide) rfl (fun hc49 => ?_) (fun hc49 => ?_)
          · exact absurd hc49 (by decide)
          · refine Go.aload C X at_52 (n := 54) rfl rfl rfl ?_
            refine Go.iloadN C X at_54 (n := 55) rfl rfl ?_
            refine Go.i2d C X at_55 (n := 56) rfl ?_
            refine Go.dconst0 C X at_56 (n := 57) rfl ?_
            refine Go.iconst C X at_57 (n := 58) rfl (v := (0 : Int32)) rfl ?_
            have E_a := Q.exa
            refine Go.virt C X eT (argsL := [(.double (FP.i2d p2)), (.double FP.dconst0), (.int (0 : Int32))]) (rest := []) (a := a) (add0 l Z a0 hw n0 _ a (FP.i2d p2) FP.dconst0 (0 : Int32) (nn_i2d _) O Q) (wd hw 35 rfl) (wd hw 36 rfl) (notFace_of_selects (args := #[]) (mvT C.hZ (wd hw 38 rfl))) (wd hw 38 rfl) (wd hw 37 rfl) (wd hw 2 rfl) (wd hw 39 rfl) (by decide) E_a (lenOf pd_6 rfl) rfl at_58 (n := 61) rfl rfl (by decide) (W := 0) rfl (by decide) (by decide) (by decide) ?_
            clear X eT
            intro T h v L X eT hQ
            obtain ⟨r58, rfl, Nq, KK, O, Q⟩ := hQ
            replace N := N.app Nq
            show Go p e below _ (T.setTop (mkF m 61 #[.val (.int p0), .val (.int p1), .val (.int p2), .val (.int p3), .val (.int p4), .val (.int p5), .val (.ref a), .val (.int (1 : Int32)), .val (.int (3 : Int32)), .val (.int (0 : Int32)), .unset] [(.int r58)]))
            refine Go.pop C X at_61 (n := 62) rfl rfl ?_
            refine Go.iload C X at_62 (n := 64) rfl rfl ?_
            refine Go.iconst C X at_64 (n := 65) rfl (v := (2 : Int32)) rfl ?_
            refine Go.icmp_lt C X at_65 (n1 := 78) (n2 := 68) (by decide) (by decide) rfl (fun hc65 => ?_) (fun hc65 => ?_)
            · exact absurd hc65 (by decide)
            · refine Go.aload C X at_68 (n := 70) rfl rfl rfl ?_
              refine Go.iloadN C X at_70 (n := 71) rfl rfl ?_
              refine Go.i2d C X at_71 (n := 72) rfl ?_
              refine Go.dconst1 C X at_72 (n := 73) rfl ?_
              refine Go.iconst C X at_73 (n := 74) rfl (v := (1 : Int32)) rfl ?_
              have E_a := Q.exa
              refine Go.virt C X eT (argsL := [(.double (FP.i2d p3)), (.double FP.dconst1), (.int (1 : Int32))]) (rest := []) (a := a) (add1 l Z a0 hw n0 _ a (FP.i2d p3) FP.dconst1 (1 : Int32) (nn_i2d _) O Q) (wd hw 35 rfl) (wd hw 36 rfl) (notFace_of_selects (args := #[]) (mvT C.hZ (wd hw 38 rfl))) (wd hw 38 rfl) (wd hw 37 rfl) (wd hw 2 rfl) (wd hw 39 rfl) (by decide) E_a (lenOf pd_6 rfl) rfl at_74 (n := 77) rfl rfl (by decide) (W := 0) rfl (by decide) (by decide) (by decide) ?_
              clear X eT
              intro T h v L X eT hQ
              obtain ⟨r74, rfl, Nq, KK, O, Q⟩ := hQ
              replace N := N.app Nq
              show Go p e below _ (T.setTop (mkF m 77 #[.val (.int p0), .val (.int p1), .val (.int p2), .val (.int p3), .val (.int p4), .val (.int p5), .val (.ref a), .val (.int (1 : Int32)), .val (.int (3 : Int32)), .val (.int (0 : Int32)), .unset] [(.int r74)]))
              refine Go.pop C X at_77 (n := 78) rfl rfl ?_
              refine Go.iload C X at_78 (n := 80) rfl rfl ?_
              refine Go.iconst C X at_80 (n := 81) rfl (v := (3 : Int32)) rfl ?_
              refine Go.icmp_lt C X at_81 (n1 := 97) (n2 := 84) (by decide) (by decide) rfl (fun hc81 => ?_) (fun hc81 => ?_)
              · exact absurd hc81 (by decide)
              · refine Go.aload C X at_84 (n := 86) rfl rfl rfl ?_
                refine Go.iload C X at_86 (n := 88) rfl rfl ?_
                refine Go.i2d C X at_88 (n := 89) rfl ?_
                refine Go.ldc2D C X (wd hw 52 rfl) at_89 (n := 92) rfl ?_
                refine Go.iconst C X at_92 (n := 93) rfl (v := (2 : Int32)) rfl ?_
                have E_a := Q.exa
                refine Go.virt C X eT (argsL := [(.double (FP.i2d p4)), (.double (4611686018427387904 : UInt64)), (.int (2 : Int32))]) (rest := []) (a := a) (add2 l Z a0 hw n0 _ a (FP.i2d p4) (4611686018427387904 : UInt64) (2 : Int32) (nn_i2d _) O Q) (wd hw 35 rfl) (wd hw 36 rfl) (notFace_of_selects (args := #[]) (mvT C.hZ (wd hw 38 rfl))) (wd hw 38 rfl) (wd hw 37 rfl) (wd hw 2 rfl) (wd hw 39 rfl) (by decide) E_a (lenOf pd_6 rfl) rfl at_93 (n := 96) rfl rfl (by decide) (W := 0) rfl (by decide) (by decide) (by decide) ?_
                clear X eT
                intro T h v L X eT hQ
                obtain ⟨r93, rfl, Nq, KK, O, Q⟩ := hQ
                replace N := N.app Nq
                show Go p e below _ (T.setTop (mkF m 96 #[.val (.int p0), .val (.int p1), .val (.int p2), .val (.int p3), .val (.int p4), .val (.int p5), .val (.ref a), .val (.int (1 : Int32)), .val (.int (3 : Int32)), .val (.int (0 : Int32)), .unset] [(.int r93)]))
                refine Go.pop C X at_96 (n := 97) rfl rfl ?_
                refine Go.iload C X at_97 (n := 99) rfl rfl ?_
                refine Go.iconst C X at_99 (n := 100) rfl (v := (1 : Int32)) rfl ?_
                refine Go.icmp_lt C X at_100 (n1 := 109) (n2 := 103) (by decide) (by decide) rfl (fun hc100 => ?_) (fun hc100 => ?_)
                · refine Go.iload C X at_109 (n := 111) rfl rfl ?_
                  refine Go.iconst C X at_111 (n := 112) rfl (v := (2 : Int32)) rfl ?_
                  refine Go.icmp_lt C X at_112 (n1 := 121) (n2 := 115) (by decide) (by decide) rfl (fun hc112 => ?_) (fun hc112 => ?_)
                  · refine Go.iload C X at_121 (n := 123) rfl rfl ?_
                    refine Go.iconst C X at_123 (n := 124) rfl (v := (3 : Int32)) rfl ?_
                    refine Go.icmp_lt C X at_124 (n1 := 133) (n2 := 127) (by decide) (by decide) rfl (fun hc124 => ?_) (fun hc124 => ?_)
                    · refine Go.iload C X at_133 (n := 135) rfl rfl ?_
                      refine Go.iload C X at_135 (n := 137) rfl rfl ?_
                      refine Go.icmp_ne C X at_137 (n1 := 144) (n2 := 140) (by decide) (by decide) rfl (fun hc137 => ?_) (fun hc137 => ?_)
                      · refine Go.iconst C X at_144 (n := 145) rfl (v := (0 : Int32)) rfl ?_
                        refine Go.istore C X at_145 (n := 147) rfl (l' := #[.val (.int p0), .val (.int p1), .val (.int p2), .val (.int p3), .val (.int p4), .val (.int p5), .val (.ref a), .val (.int (1 : Int32)), .val (.int (3 : Int32)), .val (.int (0 : Int32)), .val (.int (0 : Int32))]) rfl ?_
                        refine Go.iload C X at_147 (n := 149) rfl rfl ?_
                        refine Go.if0_eq C X at_149 (n1 := 166) (n2 := 152) (by decide) (by decide) rfl (fun hc149 => ?_) (fun hc149 => ?_)
                        · exact absurd hc149 (by decide)
                        · refine Go.aload C X at_152 (n := 154) rfl rfl rfl ?_
                          have E_a := Q.exa
                          refine Go.virt C X eT (argsL := []) (rest := []) (a := a) (rm3 l Z a0 hw n0 _ a (3 : Int32) Q.size) (wd hw 21 rfl) (wd hw 22 rfl) (notFace_of_selects (args := #[]) (mvT C.hZ (wd hw 24 rfl))) (wd hw 24 rfl) (wd hw 23 rfl) (wd hw 2 rfl) (wd hw 25 rfl) (by decide) E_a (lenOf pd_5 rfl) rfl at_154 (n := 157) rfl rfl (by decide) (W := 0) rfl (by decide) (by decide) (by decide) ?_
                          clear X eT
                          intro T h' v L X eT hQ
                          obtain ⟨rfl, rfl, hE⟩ := hQ
                          replace hE := hE.symm
                          subst hE
                          replace N := N.app (Fr.nil n0)
                          show Go p e below _ (T.setTop (mkF m 157 #[.val (.int p0), .val (.int p1), .val (.int p2), .val (.int p3), .val (.int p4), .val (.int p5), .val (.ref a), .val (.int (1 : Int32)), .val (.int (3 : Int32)), .val (.int (0 : Int32)), .val (.int (0 : Int32))] [(.int (0 : Int32))]))
                          refine Go.iload C X at_157 (n := 159) rfl rfl ?_
                          refine Go.icmp_ne C X at_159 (n1 := 166) (n2 := 162) (by decide) (by decide) rfl (fun hc159 => ?_) (fun hc159 => ?_)
                          · exact absurd hc159 (by decide)
                          · refine Go.iconst C X at_162 (n := 163) rfl (v := (1 : Int32)) rfl ?_
                            refine Go.goto C X at_163 (n := 167) (by decide) (by decide) ?_
                            refine Go.istore C X at_167 (n := 169) rfl (l' := #[.val (.int p0), .val (.int p1), .val (.int p2), .val (.int p3), .val (.int p4), .val (.int p5), .val (.ref a), .val (.int (1 : Int32)), .val (.int (3 : Int32)), .val (.int (0 : Int32)), .val (.int (0 : Int32))]) rfl ?_
                            refine Go.iload C X at_169 (n := 171) rfl rfl ?_
                            refine Go.iconst C X at_171 (n := 172) rfl (v := (1 : Int32)) rfl ?_
                            refine Go.iand C X at_172 (n := 173) rfl ?_
                            refine Go.if0_eq C X at_173 (n1 := 201) (n2 := 176) (by decide) (by decide) rfl (fun hc173 => ?_) (fun hc173 => ?_)
                            · refine Go.iload C X at_201 (n := 203) rfl rfl ?_
                              refine Go.retN C X eT (Or.inl rfl) (w := (1 : Int32)) (by decide) at_203 (by decide) (by decide) ?_
                              exact ⟨rfl, N⟩
                            · refine Go.aload C X at_176 (n := 178) rfl rfl rfl ?_
                              have E_a := Q.exa
                              refine Go.virt C X eT (argsL := []) (rest := []) (a := a) (rm4 l Z a0 hw n0 _ a _ _ O Q) (wd hw 28 rfl) (wd hw 29 rfl) (notFace_of_selects (args := #[]) (mvT C.hZ (wd hw 31 rfl))) (wd hw 31 rfl) (wd hw 30 rfl) (wd hw 2 rfl) (wd hw 32 rfl) (by decide) E_a (lenOf pd_4 rfl) rfl at_178 (n := 181) rfl rfl (by decide) (W := 0) rfl (by decide) (by decide) (by decide) ?_
                              clear X eT
                              intro T h v L X eT hQ
                              obtain ⟨rfl, Nq, KK, O, Q⟩ := hQ
                              replace N := N.app Nq
                              show Go p e below _ (T.setTop (mkF m 181 #[.val (.int p0), .val (.int p1), .val (.int p2), .val (.int p3), .val (.int p4), .val (.int p5), .val (.ref a), .val (.int (1 : Int32)), .val (.int (3 : Int32)), .val (.int (0 : Int32)), .val (.int (0 : Int32))] []))
                              refine Go.iload C X at_181 (n := 183) rfl rfl ?_
                              refine Go.if0_eq C X at_183 (n1 := 198) (n2 := 186) (by decide) (by decide) rfl (fun hc183 => ?_) (fun hc183 => ?_)
                              · exact absurd hc183 (by decide)
                              · refine Go.aload C X at_186 (n := 188) rfl rfl rfl ?_
                                have E_a := Q.exa
                                refine Go.virt C X eT (argsL := []) (rest := []) (a := a) (rm3 l Z a0 hw n0 _ a (0 : Int32) Q.size) (wd hw 21 rfl) (wd hw 22 rfl) (notFace_of_selects (args := #[]) (mvT C.hZ (wd hw 24 rfl))) (wd hw 24 rfl) (wd hw 23 rfl) (wd hw 2 rfl) (wd hw 25 rfl) (by decide) E_a (lenOf pd_5 rfl) rfl at_188 (n := 191) rfl rfl (by decide) (W := 0) rfl (by decide) (by decide) (by decide) ?_
                                clear X eT
                                intro T h' v L X eT hQ
                                obtain ⟨rfl, rfl, hE⟩ := hQ
                                replace hE := hE.symm
                                subst hE
                                replace N := N.app (Fr.nil n0)
                                show Go p e below _ (T.setTop (mkF m 191 #[.val (.int p0), .val (.int p1), .val (.int p2), .val (.int p3), .val (.int p4), .val (.int p5), .val (.ref a), .val (.int (1 : Int32)), .val (.int (3 : Int32)), .val (.int (0 : Int32)), .val (.int (0 : Int32))] [(.int (1 : Int32))]))
                                refine Go.if0_eq C X at_191 (n1 := 198) (n2 := 194) (by decide) (by decide) rfl (fun hc191 => ?_) (fun hc191 => ?_)
                                · exact absurd hc191 (by decide)
                                · refine Go.iconst C X at_194 (n := 195) rfl (v := (1 : Int32)) rfl ?_
                                  refine Go.goto C X at_195 (n := 199) (by decide) (by decide) ?_
                                  refine Go.istore C X at_199 (n := 201) rfl (l' := #[.val (.int p0), .val (.int p1), .val (.int p2), .val (.int p3), .val (.int p4), .val (.int p5), .val (.ref a), .val (.int (1 : Int32)), .val (.int (3 : Int32)), .val (.int (0 : Int32)), .val (.int (0 : Int32))]) rfl ?_
                                  refine Go.iload C X at_201 (n := 203) rfl rfl ?_
                                  refine Go.retN C X eT (Or.inl rfl) (w := (1 : Int32)) (by decide) at_203 (by decide) (by decide) ?_
                                  exact ⟨rfl, N⟩
                      · exact absurd hc137 (by decide)
                    · exact absurd hc124 (by decide)
                  · exact absurd hc112 (by decide)
                · exact absurd hc100 (by decide)
        · exact absurd hc39 (by decide)
      · show Go p e below _ (T.setTop (mkF m 33 #[.val (.int p0), .val (.int p1), .val (.int p2), .val (.int p3), .val (.int p4), .val (.int p5), .val (.ref a), .val (.int (1 : Int32)), .val (.int (3 : Int32)), .unset, .unset] [(.int (1 : Int32))]))
        refine Go.istore C X at_33 (n := 35) rfl (l' := #[.val (.int p0), .val (.int p1), .val (.int p2), .val (.int p3), .val (.int p4), .val (.int p5), .val (.ref a), .val (.int (1 : Int32)), .val (.int (3 : Int32)), .val (.int (1 : Int32)), .unset]) rfl ?_
        refine Go.iload C X at_35 (n := 37) rfl rfl ?_
        refine Go.iload C X at_37 (n := 39) rfl rfl ?_
        refine Go.icmp_le C X at_39 (n1 := 46) (n2 := 42) (by decide) (by decide) rfl (fun hc39 => ?_) (fun hc39 => ?_)
        · refine Go.iload C X at_46 (n := 48) rfl rfl ?_
          refine Go.iconst C X at_48 (n := 49) rfl (v := (1 : Int32)) rfl ?_
          refine Go.icmp_lt C X at_49 (n1 := 62) (n2 := 52) (by decide) (by decide) rfl (fun hc49 => ?_) (fun hc49 => ?_)
          · exact absurd hc49 (by decide)
          · refine Go.aload C X at_52 (n := 54) rfl rfl rfl ?_
            refine Go.iloadN C X at_54 (n := 55) rfl rfl ?_
            refine Go.i2d C X at_55 (n := 56) rfl ?_
            refine Go.dconst0 C X at_56 (n := 57) rfl ?_
            refine Go.iconst C X at_57 (n := 58) rfl (v := (0 : Int32)) rfl ?_
            have E_a := Q.exa
            refine Go.virt C X eT (argsL := [(.double (FP.i2d p2)), (.double FP.dconst0), (.int (0 : Int32))]) (rest := []) (a := a) (add0 l Z a0 hw n0 _ a (FP.i2d p2) FP.dconst0 (0 : Int32) (nn_i2d _) O Q) (wd hw 35 rfl) (wd hw 36 rfl) (notFace_of_selects (args := #[]) (mvT C.hZ (wd hw 38 rfl))) (wd hw 38 rfl) (wd hw 37 rfl) (wd hw 2 rfl) (wd hw 39 rfl) (by decide) E_a (lenOf pd_6 rfl) rfl at_58 (n := 61) rfl rfl (by decide) (W := 0) rfl (by decide) (by decide) (by decide) ?_
            clear X eT
            intro T h v L X eT hQ
            obtain ⟨r58, rfl, Nq, KK, O, Q⟩ := hQ
            replace N := N.app Nq
            show Go p e below _ (T.setTop (mkF m 61 #[.val (.int p0), .val (.int p1), .val (.int p2), .val (.int p3), .val (.int p4), .val (.int p5), .val (.ref a), .val (.int (1 : Int32)), .val (.int (3 : Int32)), .val (.int (1 : Int32)), .unset] [(.int r58)]))
            refine Go.pop C X at_61 (n := 62) rfl rfl ?_
            refine Go.iload C X at_62 (n := 64) rfl rfl ?_
            refine Go.iconst C X at_64 (n := 65) rfl (v := (2 : Int32)) rfl ?_
            refine Go.icmp_lt C X at_65 (n1 := 78) (n2 := 68) (by decide) (by decide) rfl (fun hc65 => ?_) (fun hc65 => ?_)
            · exact absurd hc65 (by decide)
            · refine Go.aload C X at_68 (n := 70) rfl rfl rfl ?_
              refine Go.iloadN C X at_70 (n := 71) rfl rfl ?_
              refine Go.i2d C X at_71 (n := 72) rfl ?_
              refine Go.dconst1 C X at_72 (n := 73) rfl ?_
              refine Go.iconst C X at_73 (n := 74) rfl (v := (1 : Int32)) rfl ?_
              have E_a := Q.exa
              refine Go.virt C X eT (argsL := [(.double (FP.i2d p3)), (.double FP.dconst1), (.int (1 : Int32))]) (rest := []) (a := a) (add1 l Z a0 hw n0 _ a (FP.i2d p3) FP.dconst1 (1 : Int32) (nn_i2d _) O Q) (wd hw 35 rfl) (wd hw 36 rfl) (notFace_of_selects (args := #[]) (mvT C.hZ (wd hw 38 rfl))) (wd hw 38 rfl) (wd hw 37 rfl) (wd hw 2 rfl) (wd hw 39 rfl) (by decide) E_a (lenOf pd_6 rfl) rfl at_74 (n := 77) rfl rfl (by decide) (W := 0) rfl (by decide) (by decide) (by decide) ?_
              clear X eT
              intro T h v L X eT hQ
              obtain ⟨r74, rfl, Nq, KK, O, Q⟩ := hQ
              replace N := N.app Nq
              show Go p e below _ (T.setTop (mkF m 77 #[.val (.int p0), .val (.int p1), .val (.int p2), .val (.int p3), .val (.int p4), .val (.int p5), .val (.ref a), .val (.int (1 : Int32)), .val (.int (3 : Int32)), .val (.int (1 : Int32)), .unset] [(.int r74)]))
              refine Go.pop C X at_77 (n := 78) rfl rfl ?_
              refine Go.iload C X at_78 (n := 80) rfl rfl ?_
              refine Go.iconst C X at_80 (n := 81) rfl (v := (3 : Int32)) rfl ?_
              refine Go.icmp_lt C X at_81 (n1 := 97) (n2 := 84) (by decide) (by decide) rfl (fun hc81 => ?_) (fun hc81 => ?_)
              · exact absurd hc81 (by decide)
              · refine Go.aload C X at_84 (n := 86) rfl rfl rfl ?_
                refine Go.iload C X at_86 (n := 88) rfl rfl ?_
                refine Go.i2d C X at_88 (n := 89) rfl ?_
                refine Go.ldc2D C X (wd hw 52 rfl) at_89 (n := 92) rfl ?_
                refine Go.iconst C X at_92 (n := 93) rfl (v := (2 : Int32)) rfl ?_
                have E_a := Q.exa
                refine Go.virt C X eT (argsL := [(.double (FP.i2d p4)), (.double (4611686018427387904 : UInt64)), (.int (2 : Int32))]) (rest := []) (a := a) (add2 l Z a0 hw n0 _ a (FP.i2d p4) (4611686018427387904 : UInt64) (2 : Int32) (nn_i2d _) O Q) (wd hw 35 rfl) (wd hw 36 rfl) (notFace_of_selects (args := #[]) (mvT C.hZ (wd hw 38 rfl))) (wd hw 38 rfl) (wd hw 37 rfl) (wd hw 2 rfl) (wd hw 39 rfl) (by decide) E_a (lenOf pd_6 rfl) rfl at_93 (n := 96) rfl rfl (by decide) (W := 0) rfl (by decide) (by decide) (by decide) ?_
                clear X eT
                intro T h v L X eT hQ
                obtain ⟨r93, rfl, Nq, KK, O, Q⟩ := hQ
                replace N := N.app Nq
                show Go p e below _ (T.setTop (mkF m 96 #[.val (.int p0), .val (.int p1), .val (.int p2), .val (.int p3), .val (.int p4), .val (.int p5), .val (.ref a), .val (.int (1 : Int32)), .val (.int (3 : Int32)), .val (.int (1 : Int32)), .unset] [(.int r93)]))
                refine Go.pop C X at_96 (n := 97) rfl rfl ?_
                refine Go.iload C X at_97 (n := 99) rfl rfl ?_
                refine Go.iconst C X at_99 (n := 100) rfl (v := (1 : Int32)) rfl ?_
                refine Go.icmp_lt C X at_100 (n1 := 109) (n2 := 103) (by decide) (by decide) rfl (fun hc100 => ?_) (fun hc100 => ?_)
                · exact absurd hc100 (by decide)
                · refine Go.aload C X at_103 (n := 105) rfl rfl rfl ?_
                  have E_a := Q.exa
                  refine Go.virt C X eT (argsL := []) (rest := []) (a := a) (poll3 l Z a0 hw n0 _ a _ O Q) (wd hw 40 rfl) (wd hw 41 rfl) (notFace_of_selects (args := #[]) (mvT C.hZ (wd hw 43 rfl))) (wd hw 43 rfl) (wd hw 42 rfl) (wd hw 2 rfl) (wd hw 44 rfl) (by decide) E_a (lenOf pd_7 rfl) rfl at_105 (n := 108) rfl rfl (by decide) (W := 0) rfl (by decide) (by decide) (by decide) ?_
                  clear X eT
                  intro T h v L X eT hQ
                  obtain ⟨r105, rfl, Nq, KK, O, Q⟩ := hQ
                  replace N := N.app Nq
                  show Go p e below _ (T.setTop (mkF m 108 #[.val (.int p0), .val (.int p1), .val (.int p2), .val (.int p3), .val (.int p4), .val (.int p5), .val (.ref a), .val (.int (1 : Int32)), .val (.int (3 : Int32)), .val (.int (1 : Int32)), .unset] [(.int r105)]))
                  refine Go.pop C X at_108 (n := 109) rfl rfl ?_
                  refine Go.iload C X at_109 (n := 111) rfl rfl ?_
                  refine Go.iconst C X at_111 (n := 112) rfl (v := (2 : Int32)) rfl ?_
                  refine Go.icmp_lt C X at_112 (n1 := 121) (n2 := 115) (by decide) (by decide) rfl (fun hc112 => ?_) (fun hc112 => ?_)
                  · refine Go.iload C X at_121 (n := 123) rfl rfl ?_
                    refine Go.iconst C X at_123 (n := 124) rfl (v := (3 : Int32)) rfl ?_
                    refine Go.icmp_lt C X at_124 (n1 := 133) (n2 := 127) (by decide) (by decide) rfl (fun hc124 => ?_) (fun hc124 => ?_)
                    · refine Go.iload C X at_133 (n := 135) rfl rfl ?_
                      refine Go.iload C X at_135 (n := 137) rfl rfl ?_
                      refine Go.icmp_ne C X at_137 (n1 := 144) (n2 := 140) (by decide) (by decide) rfl (fun hc137 => ?_) (fun hc137 => ?_)
                      · refine Go.iconst C X at_144 (n := 145) rfl (v := (0 : Int32)) rfl ?_
                        refine Go.istore C X at_145 (n := 147) rfl (l' := #[.val (.int p0), .val (.int p1), .val (.int p2), .val (.int p3), .val (.int p4), .val (.int p5), .val (.ref a), .val (.int (1 : Int32)), .val (.int (3 : Int32)), .val (.int (1 : Int32)), .val (.int (0 : Int32))]) rfl ?_
                        refine Go.iload C X at_147 (n := 149) rfl rfl ?_
                        refine Go.if0_eq C X at_149 (n1 := 166) (n2 := 152) (by decide) (by decide) rfl (fun hc149 => ?_) (fun hc149 => ?_)
                        · exact absurd hc149 (by decide)
                        · refine Go.aload C X at_152 (n := 154) rfl rfl rfl ?_
                          have E_a := Q.exa
                          refine Go.virt C X eT (argsL := []) (rest := []) (a := a) (rm3 l Z a0 hw n0 _ a (2 : Int32) Q.size) (wd hw 21 rfl) (wd hw 22 rfl) (notFace_of_selects (args := #[]) (mvT C.hZ (wd hw 24 rfl))) (wd hw 24 rfl) (wd hw 23 rfl) (wd hw 2 rfl) (wd hw 25 rfl) (by decide) E_a (lenOf pd_5 rfl) rfl at_154 (n := 157) rfl rfl (by decide) (W := 0) rfl (by decide) (by decide) (by decide) ?_
                          clear X eT
                          intro T h' v L X eT hQ
                          obtain ⟨rfl, rfl, hE⟩ := hQ
                          replace hE := hE.symm
                          subst hE
                          replace N := N.app (Fr.nil n0)
                          show Go p e below _ (T.setTop (mkF m 157 #[.val (.int p0), .val (.int p1), .val (.int p2), .val (.int p3), .val (.int p4), .val (.int p5), .val (.ref a), .val (.int (1 : Int32)), .val (.int (3 : Int32)), .val (.int (1 : Int32)), .val (.int (0 : Int32))] [(.int (0 : Int32))]))
                          refine Go.iload C X at_157 (n := 159) rfl rfl ?_
                          refine Go.icmp_ne C X at_159 (n1 := 166) (n2 := 162) (by decide) (by decide) rfl (fun hc159 => ?_) (fun hc159 => ?_)
                          · exact absurd hc159 (by decide)
                          · refine Go.iconst C X at_162 (n := 163) rfl (v := (1 : Int32)) rfl ?_
                            refine Go.goto C X at_163 (n := 167) (by decide) (by decide) ?_
                            refine Go.istore C X at_167 (n := 169) rfl (l' := #[.val (.int p0), .val (.int p1), .val (.int p2), .val (.int p3), .val (.int p4), .val (.int p5), .val (.ref a), .val (.int (1 : Int32)), .val (.int (3 : Int32)), .val (.int (1 : Int32)), .val (.int (0 : Int32))]) rfl ?_
                            refine Go.iload C X at_169 (n := 171) rfl rfl ?_
                            refine Go.iconst C X at_171 (n := 172) rfl (v := (1 : Int32)) rfl ?_
                            refine Go.iand C X at_172 (n := 173) rfl ?_
                            refine Go.if0_eq C X at_173 (n1 := 201) (n2 := 176) (by decide) (by decide) rfl (fun hc173 => ?_) (fun hc173 => ?_)
                            · refine Go.iload C X at_201 (n := 203) rfl rfl ?_
                              refine Go.retN C X eT (Or.inl rfl) (w := (1 : Int32)) (by decide) at_203 (by decide) (by decide) ?_
                              exact ⟨rfl, N⟩
                            · refine Go.aload C X at_176 (n := 178) rfl rfl rfl ?_
                              have E_a := Q.exa
                              refine Go.virt C X eT (argsL := []) (rest := []) (a := a) (rm4 l Z a0 hw n0 _ a _ _ O Q) (wd hw 28 rfl) (wd hw 29 rfl) (notFace_of_selects (args := #[]) (mvT C.hZ (wd hw 31 rfl))) (wd hw 31 rfl) (wd hw 30 rfl) (wd hw 2 rfl) (wd hw 32 rfl) (by decide) E_a (lenOf pd_4 rfl) rfl at_178 (n := 181) rfl rfl (by decide) (W := 0) rfl (by decide) (by decide) (by decide) ?_
                              clear X eT
                              intro T h v L X eT hQ
                              obtain ⟨rfl, Nq, KK, O, Q⟩ := hQ
                              replace N := N.app Nq
                              show Go p e below _ (T.setTop (mkF m 181 #[.val (.int p0), .val (.int p1), .val (.int p2), .val (.int p3), .val (.int p4), .val (.int p5), .val (.ref a), .val (.int (1 : Int32)), .val (.int (3 : Int32)), .val (.int (1 : Int32)), .val (.int (0 : Int32))] []))
                              refine Go.iload C X at_181 (n := 183) rfl rfl ?_
                              refine Go.if0_eq C X at_183 (n1 := 198) (n2 := 186) (by decide) (by decide) rfl (fun hc183 => ?_) (fun hc183 => ?_)
                              · exact absurd hc183 (by decide)
                              · refine Go.aload C X at_186 (n := 188) rfl rfl rfl ?_
                                have E_a := Q.exa
                                refine Go.virt C X eT (argsL := []) (rest := []) (a := a) (rm3 l Z a0 hw n0 _ a (0 : Int32) Q.size) (wd hw 21 rfl) (wd hw 22 rfl) (notFace_of_selects (args := #[]) (mvT C.hZ (wd hw 24 rfl))) (wd hw 24 rfl) (wd hw 23 rfl) (wd hw 2 rfl) (wd hw 25 rfl) (by decide) E_a (lenOf pd_5 rfl) rfl at_188 (n := 191) rfl rfl (by decide) (W := 0) rfl (by decide) (by decide) (by decide) ?_
                                clear X eT
                                intro T h' v L X eT hQ
                                obtain ⟨rfl, rfl, hE⟩ := hQ
                                replace hE := hE.symm
                                subst hE
                                replace N := N.app (Fr.nil n0)
                                show Go p e below _ (T.setTop (mkF m 191 #[.val (.int p0), .val (.int p1), .val (.int p2), .val (.int p3), .val (.int p4), .val (.int p5), .val (.ref a), .val (.int (1 : Int32)), .val (.int (3 : Int32)), .val (.int (1 : Int32)), .val (.int (0 : Int32))] [(.int (1 : Int32))]))
                                refine Go.if0_eq C X at_191 (n1 := 198) (n2 := 194) (by decide) (by decide) rfl (fun hc191 => ?_) (fun hc191 => ?_)
                                · exact absurd hc191 (by decide)
                                · refine Go.iconst C X at_194 (n := 195) rfl (v := (1 : Int32)) rfl ?_
                                  refine Go.goto C X at_195 (n := 199) (by decide) (by decide) ?_
                                  refine Go.istore C X at_199 (n := 201) rfl (l' := #[.val (.int p0), .val (.int p1), .val (.int p2), .val (.int p3), .val (.int p4), .val (.int p5), .val (.ref a), .val (.int (1 : Int32)), .val (.int (3 : Int32)), .val (.int (1 : Int32)), .val (.int (0 : Int32))]) rfl ?_
                                  refine Go.iload C X at_201 (n := 203) rfl rfl ?_
                                  refine Go.retN C X eT (Or.inl rfl) (w := (1 : Int32)) (by decide) at_203 (by decide) (by decide) ?_
                                  exact ⟨rfl, N⟩
                      · exact absurd hc137 (by decide)
                    · exact absurd hc124 (by decide)
                  · exact absurd hc112 (by decide)
        · exact absurd hc39 (by decide)
      · show Go p e below _ (T.setTop (mkF m 33 #[.val (.int p0), .val (.int p1), .val (.int p2), .val (.int p3), .val (.int p4), .val (.int p5), .val (.ref a), .val (.int (1 : Int32)), .val (.int (3 : Int32)), .unset, .unset] [(.int (2 : Int32))]))
        refine Go.istore C X at_33 (n := 35) rfl (l' := #[.val (.int p0), .val (.int p1), .val (.int p2), .val (.int p3), .val (.int p4), .val (.int p5), .val (.ref a), .val (.int (1 : Int32)), .val (.int (3 : Int32)), .val (.int (2 : Int32)), .unset]) rfl ?_
        refine Go.iload C X at_35 (n := 37) rfl rfl ?_
        refine Go.iload C X at_37 (n := 39) rfl rfl ?_
        refine Go.icmp_le C X at_39 (n1 := 46) (n2 := 42) (by decide) (by decide) rfl (fun hc39 => ?_) (fun hc39 => ?_)
        · refine Go.iload C X at_46 (n := 48) rfl rfl ?_
          refine Go.iconst C X at_48 (n := 49) rfl (v := (1 : Int32)) rfl ?_
          refine Go.icmp_lt C X at_49 (n1 := 62) (n2 := 52) (by decide) (by decide) rfl (fun hc49 => ?_) (fun hc49 => ?_)
          · exact absurd hc49 (by decide)
          · refine Go.aload C X at_52 (n := 54) rfl rfl rfl ?_
            refine Go.iloadN C X at_54 (n := 55) rfl rfl ?_
            refine Go.i2d C X at_55 (n := 56) rfl ?_
            refine Go.dconst0 C X at_56 (n := 57) rfl ?_
            refine Go.iconst C X at_57 (n := 58) rfl (v := (0 : Int32)) rfl ?_
            have E_a := Q.exa
            refine Go.virt C X eT (argsL := [(.double (FP.i2d p2)), (.double FP.dconst0), (.int (0 : Int32))]) (rest := []) (a := a) (add0 l Z a0 hw n0 _ a (FP.i2d p2) FP.dconst0 (0 : Int32) (nn_i2d _) O Q) (wd hw 35 rfl) (wd hw 36 rfl) (notFace_of_selects (args := #[]) (mvT C.hZ (wd hw 38 rfl))) (wd hw 38 rfl) (wd hw 37 rfl) (wd hw 2 rfl) (wd hw 39 rfl) (by decide) E_a (lenOf pd_6 rfl) rfl at_58 (n := 61) rfl rfl (by decide) (W := 0) rfl (by decide) (by decide) (by decide) ?_
            clear X eT
            intro T h v L X eT hQ
            obtain ⟨r58, rfl, Nq, KK, O, Q⟩ := hQ
            replace N := N.app Nq
            show Go p e below _ (T.setTop (mkF m 61 #[.val (.int p0), .val (.int p1), .val (.int p2), .val (.int p3), .val (.int p4), .val (.int p5), .val (.ref a), .val (.int (1 : Int32)), .val (.int (3 : Int32)), .val (.int (2 : Int32)), .unset] [(.int r58)]))
            refine Go.pop C X at_61 (n := 62) rfl rfl ?_
            refine Go.iload C X at_62 (n := 64) rfl rfl ?_
            refine Go.iconst C X at_64 (n := 65) rfl (v := (2 : Int32)) rfl ?_
            refine Go.icmp_lt C X at_65 (n1 := 78) (n2 := 68) (by decide) (by decide) rfl (fun hc65 => ?_) (fun hc65 => ?_)
            · exact absurd hc65 (by decide)
            · refine Go.aload C X at_68 (n := 70) rfl rfl rfl ?_
              refine Go.iloadN C X at_70 (n := 71) rfl rfl ?_
              refine Go.i2d C X at_71 (n := 72) rfl ?_
              refine Go.dconst1 C X at_72 (n := 73) rfl ?_
              refine Go.iconst C X at_73 (n := 74) rfl (v := (1 : Int32)) rfl ?_
              have E_a := Q.exa
              refine Go.virt C X eT (argsL := [(.double (FP.i2d p3)), (.double FP.dconst1), (.int (1 : Int32))]) (rest := []) (a := a) (add1 l Z a0 hw n0 _ a (FP.i2d p3) FP.dconst1 (1 : Int32) (nn_i2d _) O Q) (wd hw 35 rfl) (wd hw 36 rfl) (notFace_of_selects (args := #[]) (mvT C.hZ (wd hw 38 rfl))) (wd hw 38 rfl) (wd hw 37 rfl) (wd hw 2 rfl) (wd hw 39 rfl) (by decide) E_a (lenOf pd_6 rfl) rfl at_74 (n := 77) rfl rfl (by decide) (W := 0) rfl (by decide) (by decide) (by decide) ?_
              clear X eT
              intro T h v L X eT hQ
              obtain ⟨r74, rfl, Nq, KK, O, Q⟩ := hQ
              replace N := N.app Nq
              show Go p e below _ (T.setTop (mkF m 77 #[.val (.int p0), .val (.int p1), .val (.int p2), .val (.int p3), .val (.int p4), .val (.int p5), .val (.ref a), .val (.int (1 : Int32)), .val (.int (3 : Int32)), .val (.int (2 : Int32)), .unset] [(.int r74)]))
              refine Go.pop C X at_77 (n := 78) rfl rfl ?_
              refine Go.iload C X at_78 (n := 80) rfl rfl ?_
              refine Go.iconst C X at_80 (n := 81) rfl (v := (3 : Int32)) rfl ?_
              refine Go.icmp_lt C X at_81 (n1 := 97) (n2 := 84) (by decide) (by decide) rfl (fun hc81 => ?_) (fun hc81 => ?_)
              · exact absurd hc81 (by decide)
              · refine Go.aload C X at_84 (n := 86) rfl rfl rfl ?_
                refine Go.iload C X at_86 (n := 88) rfl rfl ?_
                refine Go.i2d C X at_88 (n := 89) rfl ?_
                refine Go.ldc2D C X (wd hw 52 rfl) at_89 (n := 92) rfl ?_
                refine Go.iconst C X at_92 (n := 93) rfl (v := (2 : Int32)) rfl ?_
                have E_a := Q.exa
                refine Go.virt C X eT (argsL := [(.double (FP.i2d p4)), (.double (4611686018427387904 : UInt64)), (.int (2 : Int32))]) (rest := []) (a := a) (add2 l Z a0 hw n0 _ a (FP.i2d p4) (4611686018427387904 : UInt64) (2 : Int32) (nn_i2d _) O Q) (wd hw 35 rfl) (wd hw 36 rfl) (notFace_of_selects (args := #[]) (mvT C.hZ (wd hw 38 rfl))) (wd hw 38 rfl) (wd hw 37 rfl) (wd hw 2 rfl) (wd hw 39 rfl) (by decide) E_a (lenOf pd_6 rfl) rfl at_93 (n := 96) rfl rfl (by decide) (W := 0) rfl (by decide) (by decide) (by decide) ?_
                clear X eT
                intro T h v L X eT hQ
                obtain ⟨r93, rfl, Nq, KK, O, Q⟩ := hQ
                replace N := N.app Nq
                show Go p e below _ (T.setTop (mkF m 96 #[.val (.int p0), .val (.int p1), .val (.int p2), .val (.int p3), .val (.int p4), .val (.int p5), .val (.ref a), .val (.int (1 : Int32)), .val (.int (3 : Int32)), .val (.int (2 : Int32)), .unset] [(.int r93)]))
                refine Go.pop C X at_96 (n := 97) rfl rfl ?_
                refine Go.iload C X at_97 (n := 99) rfl rfl ?_
                refine Go.iconst C X at_99 (n := 100) rfl (v := (1 : Int32)) rfl ?_
                refine Go.icmp_lt C X at_100 (n1 := 109) (n2 := 103) (by decide) (by decide) rfl (fun hc100 => ?_) (fun hc100 => ?_)
                · exact absurd hc100 (by decide)
                · refine Go.aload C X at_103 (n := 105) rfl rfl rfl ?_
                  have E_a := Q.exa
                  refine Go.virt C X eT (argsL := []) (rest := []) (a := a) (poll3 l Z a0 hw n0 _ a _ O Q) (wd hw 40 rfl) (wd hw 41 rfl) (notFace_of_selects (args := #[]) (mvT C.hZ (wd hw 43 rfl))) (wd hw 43 rfl) (wd hw 42 rfl) (wd hw 2 rfl) (wd hw 44 rfl) (by decide) E_a (lenOf pd_7 rfl) rfl at_105 (n := 108) rfl rfl (by decide) (W := 0) rfl (by decide) (by decide) (by decide) ?_
                  clear X eT
                  intro T h v L X eT hQ
                  obtain ⟨r105, rfl, Nq, KK, O, Q⟩ := hQ
                  replace N := N.app Nq
                  show Go p e below _ (T.setTop (mkF m 108 #[.val (.int p0), .val (.int p1), .val (.int p2), .val (.int p3), .val (.int p4), .val (.int p5), .val (.ref a), .val (.int (1 : Int32)), .val (.int (3 : Int32)), .val (.int (2 : Int32)), .unset] [(.int r105)]))
                  refine Go.pop C X at_108 (n := 109) rfl rfl ?_
                  refine Go.iload C X at_109 (n := 111) rfl rfl ?_
                  refine Go.iconst C X at_111 (n := 112) rfl (v := (2 : Int32)) rfl ?_
                  refine Go.icmp_lt C X at_112 (n1 := 121) (n2 := 115) (by decide) (by decide) rfl (fun hc112 => ?_) (fun hc112 => ?_)
                  · exact absurd hc112 (by decide)
                  · refine Go.aload C X at_115 (n := 117) rfl rfl rfl ?_
                    have E_a := Q.exa
                    refine Go.virt C X eT (argsL := []) (rest := []) (a := a) (poll2 l Z a0 hw n0 _ a _ O Q) (wd hw 40 rfl) (wd hw 41 rfl) (notFace_of_selects (args := #[]) (mvT C.hZ (wd hw 43 rfl))) (wd hw 43 rfl) (wd hw 42 rfl) (wd hw 2 rfl) (wd hw 44 rfl) (by decide) E_a (lenOf pd_7 rfl) rfl at_117 (n := 120) rfl rfl (by decide) (W := 0) rfl (by decide) (by decide) (by decide) ?_
                    clear X eT
                    intro T h v L X eT hQ
                    obtain ⟨r117, rfl, Nq, KK, O, Q⟩ := hQ
                    replace N := N.app Nq
                    show Go p e below _ (T.setTop (mkF m 120 #[.val (.int p0), .val (.int p1), .val (.int p2), .val (.int p3), .val (.int p4), .val (.int p5), .val (.ref a), .val (.int (1 : Int32)), .val (.int (3 : Int32)), .val (.int (2 : Int32)), .unset] [(.int r117)]))
                    refine Go.pop C X at_120 (n := 121) rfl rfl ?_
                    refine Go.iload C X at_121 (n := 123) rfl rfl ?_
                    refine Go.iconst C X at_123 (n := 124) rfl (v := (3 : Int32)) rfl ?_
                    refine Go.icmp_lt C X at_124 (n1 := 133) (n2 := 127) (by decide) (by decide) rfl (fun hc124 => ?_) (fun hc124 => ?_)
                    · refine Go.iload C X at_133 (n := 135) rfl rfl ?_
                      refine Go.iload C X at_135 (n := 137) rfl rfl ?_
                      refine Go.icmp_ne C X at_137 (n1 := 144) (n2 := 140) (by decide) (by decide) rfl (fun hc137 => ?_) (fun hc137 => ?_)
                      · refine Go.iconst C X at_144 (n := 145) rfl (v := (0 : Int32)) rfl ?_
                        refine Go.istore C X at_145 (n := 147) rfl (l' := #[.val (.int p0), .val (.int p1), .val (.int p2), .val (.int p3), .val (.int p4), .val (.int p5), .val (.ref a), .val (.int (1 : Int32)), .val (.int (3 : Int32)), .val (.int (2 : Int32)), .val (.int (0 : Int32))]) rfl ?_
                        refine Go.iload C X at_147 (n := 149) rfl rfl ?_
                        refine Go.if0_eq C X at_149 (n1 := 166) (n2 := 152) (by decide) (by decide) rfl (fun hc149 => ?_) (fun hc149 => ?_)
                        · exact absurd hc149 (by decide)
                        · refine Go.aload C X at_152 (n := 154) rfl rfl rfl ?_
                          have E_a := Q.exa
                          refine Go.virt C X eT (argsL := []) (rest := []) (a := a) (rm3 l Z a0 hw n0 _ a (1 : Int32) Q.size) (wd hw 21 rfl) (wd hw 22 rfl) (notFace_of_selects (args := #[]) (mvT C.hZ (wd hw 24 rfl))) (wd hw 24 rfl) (wd hw 23 rfl) (wd hw 2 rfl) (wd hw 25 rfl) (by decide) E_a (lenOf pd_5 rfl) rfl at_154 (n := 157) rfl rfl (by decide) (W := 0) rfl (by decide) (by decide) (by decide) ?_
                          clear X eT
                          intro T h' v L X eT hQ
                          obtain ⟨rfl, rfl, hE⟩ := hQ
                          replace hE := hE.symm
                          subst hE
                          replace N := N.app (Fr.nil n0)
                          show Go p e below _ (T.setTop (mkF m 157 #[.val (.int p0), .val (.int p1), .val (.int p2), .val (.int p3), .val (.int p4), .val (.int p5), .val (.ref a), .val (.int (1 : Int32)), .val (.int (3 : Int32)), .val (.int (2 : Int32)), .val (.int (0 : Int32))] [(.int (0 : Int32))]))
                          refine Go.iload C X at_157 (n := 159) rfl rfl ?_
                          refine Go.icmp_ne C X at_159 (n1 := 166) (n2 := 162) (by decide) (by decide) rfl (fun hc159 => ?_) (fun hc159 => ?_)
                          · exact absurd hc159 (by decide)
                          · refine Go.iconst C X at_162 (n := 163) rfl (v := (1 : Int32)) rfl ?_
                            refine Go.goto C X at_163 (n := 167) (by decide) (by decide) ?_
                            refine Go.istore C X at_167 (n := 169) rfl (l' := #[.val (.int p0), .val (.int p1), .val (.int p2), .val (.int p3), .val (.int p4), .val (.int p5), .val (.ref a), .val (.int (1 : Int32)), .val (.int (3 : Int32)), .val (.int (2 : Int32)), .val (.int (0 : Int32))]) rfl ?_
                            refine Go.iload C X at_169 (n := 171) rfl rfl ?_
                            refine Go.iconst C X at_171 (n := 172) rfl (v := (1 : Int32)) rfl ?_
                            refine Go.iand C X at_172 (n := 173) rfl ?_
                            refine Go.if0_eq C X at_173 (n1 := 201) (n2 := 176) (by decide) (by decide) rfl (fun hc173 => ?_) (fun hc173 => ?_)
                            · refine Go.iload C X at_201 (n := 203) rfl rfl ?_
                              refine Go.retN C X eT (Or.inl rfl) (w := (1 : Int32)) (by decide) at_203 (by decide) (by decide) ?_
                              exact ⟨rfl, N⟩
                            · refine Go.aload C X at_176 (n := 178) rfl rfl rfl ?_
                              have E_a := Q.exa
                              refine Go.virt C X eT (argsL := []) (rest := []) (a := a) (rm4 l Z a0 hw n0 _ a _ _ O Q) (wd hw 28 rfl) (wd hw 29 rfl) (notFace_of_selects (args := #[]) (mvT C.hZ (wd hw 31 rfl))) (wd hw 31 rfl) (wd hw 30 rfl) (wd hw 2 rfl) (wd hw 32 rfl) (by decide) E_a (lenOf pd_4 rfl) rfl at_178 (n := 181) rfl rfl (by decide) (W := 0) rfl (by decide) (by decide) (by decide) ?_
                              clear X eT
                              intro T h v L X eT hQ
                              obtain ⟨rfl, Nq, KK, O, Q⟩ := hQ
                              replace N := N.app Nq
                              show Go p e below _ (T.setTop (mkF m 181 #[.val (.int p0), .val (.int p1), .val (.int p2), .val (.int p3), .val (.int p4), .val (.int p5), .val (.ref a), .val (.int (1 : Int32)), .val (.int (3 : Int32)), .val (.int (2 : Int32)), .val (.int (0 : Int32))] []))
                              refine Go.iload C X at_181 (n := 183) rfl rfl ?_
                              refine Go.if0_eq C X at_183 (n1 := 198) (n2 := 186) (by decide) (by decide) rfl (fun hc183 => ?_) (fun hc183 => ?_)
                              · exact absurd hc183 (by decide)
                              · refine Go.aload C X at_186 (n := 188) rfl rfl rfl ?_
                                have E_a := Q.exa
                                refine Go.virt C X eT (argsL := []) (rest := []) (a := a) (rm3 l Z a0 hw n0 _ a (0 : Int32) Q.size) (wd hw 21 rfl) (wd hw 22 rfl) (notFace_of_selects (args := #[]) (mvT C.hZ (wd hw 24 rfl))) (wd hw 24 rfl) (wd hw 23 rfl) (wd hw 2 rfl) (wd hw 25 rfl) (by decide) E_a (lenOf pd_5 rfl) rfl at_188 (n := 191) rfl rfl (by decide) (W := 0) rfl (by decide) (by decide) (by decide) ?_
                                clear X eT
                                intro T h' v L X eT hQ
                                obtain ⟨rfl, rfl, hE⟩ := hQ
                                replace hE := hE.symm
                                subst hE
                                replace N := N.app (Fr.nil n0)
                                show Go p e below _ (T.setTop (mkF m 191 #[.val (.int p0), .val (.int p1), .val (.int p2), .val (.int p3), .val (.int p4), .val (.int p5), .val (.ref a), .val (.int (1 : Int32)), .val (.int (3 : Int32)), .val (.int (2 : Int32)), .val (.int (0 : Int32))] [(.int (1 : Int32))]))
                                refine Go.if0_eq C X at_191 (n1 := 198) (n2 := 194) (by decide) (by decide) rfl (fun hc191 => ?_) (fun hc191 => ?_)
                                · exact absurd hc191 (by decide)
                                · refine Go.iconst C X at_194 (n := 195) rfl (v := (1 : Int32)) rfl ?_
                                  refine Go.goto C X at_195 (n := 199) (by decide) (by decide) ?_
                                  refine Go.istore C X at_199 (n := 201) rfl (l' := #[.val (.int p0), .val (.int p1), .val (.int p2), .val (.int p3), .val (.int p4), .val (.int p5), .val (.ref a), .val (.int (1 : Int32)), .val (.int (3 : Int32)), .val (.int (2 : Int32)), .val (.int (0 : Int32))]) rfl ?_
                                  refine Go.iload C X at_201 (n := 203) rfl rfl ?_
                                  refine Go.retN C X eT (Or.inl rfl) (w := (1 : Int32)) (by decide) at_203 (by decide) (by decide) ?_
                                  exact ⟨rfl, N⟩
                      · exact absurd hc137 (by decide)
                    · exact absurd hc124 (by decide)
        · exact absurd hc39 (by decide)
      · show Go p e below _ (T.setTop (mkF m 33 #[.val (.int p0), .val (.int p1), .val (.int p2), .val (.int p3), .val (.int p4), .val (.int p5), .val (.ref a), .val (.int (1 : Int32)), .val (.int (3 : Int32)), .unset, .unset] [(.int (3 : Int32))]))
        refine Go.istore C X at_33 (n := 35) rfl (l' := #[.val (.int p0), .val (.int p1), .val (.int p2), .val (.int p3), .val (.int p4), .val (.int p5), .val (.ref a), .val (.int (1 : Int32)), .val (.int (3 : Int32)), .val (.int (3 : Int32)), .unset]) rfl ?_
        refine Go.iload C X at_35 (n := 37) rfl rfl ?_
        refine Go.iload C X at_37 (n := 39) rfl rfl ?_
        refine Go.icmp_le C X at_39 (n1 := 46) (n2 := 42) (by decide) (by decide) rfl (fun hc39 => ?_) (fun hc39 => ?_)
        · refine Go.iload C X at_46 (n := 48) rfl rfl ?_
          refine Go.iconst C X at_48 (n := 49) rfl (v := (1 : Int32)) rfl ?_
          refine Go.icmp_lt C X at_49 (n1 := 62) (n2 := 52) (by decide) (by decide) rfl (fun hc49 => ?_) (fun hc49 => ?_)
          · exact absurd hc49 (by decide)
          · refine Go.aload C X at_52 (n := 54) rfl rfl rfl ?_
            refine Go.iloadN C X at_54 (n := 55) rfl rfl ?_
            refine Go.i2d C X at_55 (n := 56) rfl ?_
            refine Go.dconst0 C X at_56 (n := 57) rfl ?_
            refine Go.iconst C X at_57 (n := 58) rfl (v := (0 : Int32)) rfl ?_
            have E_a := Q.exa
            refine Go.virt C X eT (argsL := [(.double (FP.i2d p2)), (.double FP.dconst0), (.int (0 : Int32))]) (rest := []) (a := a) (add0 l Z a0 hw n0 _ a (FP.i2d p2) FP.dconst0 (0 : Int32) (nn_i2d _) O Q) (wd hw 35 rfl) (wd hw 36 rfl) (notFace_of_selects (args := #[]) (mvT C.hZ (wd hw 38 rfl))) (wd hw 38 rfl) (wd hw 37 rfl) (wd hw 2 rfl) (wd hw 39 rfl) (by decide) E_a (lenOf pd_6 rfl) rfl at_58 (n := 61) rfl rfl (by decide) (W := 0) rfl (by decide) (by decide) (by decide) ?_
            clear X eT
            intro T h v L X eT hQ
            obtain ⟨r58, rfl, Nq, KK, O, Q⟩ := hQ
            replace N := N.app Nq
            show Go p e below _ (T.setTop (mkF m 61 #[.val (.int p0), .val (.int p1), .val (.int p2), .val (.int p3), .val (.int p4), .val (.int p5), .val (.ref a), .val (.int (1 : Int32)), .val (.int (3 : Int32)), .val (.int (3 : Int32)), .unset] [(.int r58)]))
            refine Go.pop C X at_61 (n := 62) rfl rfl ?_
            refine Go.iload C X at_62 (n := 64) rfl rfl ?_
            refine Go.iconst C X at_64 (n := 65) rfl (v := (2 : Int32)) rfl ?_
            refine Go.icmp_lt C X at_65 (n1 := 78) (n2 := 68) (by decide) (by decide) rfl (fun hc65 => ?_) (fun hc65 => ?_)
            · exact absurd hc65 (by decide)
            · refine Go.aload C X at_68 (n := 70) rfl rfl rfl ?_
              refine Go.iloadN C X at_70 (n := 71) rfl rfl ?_
              refine Go.i2d C X at_71 (n := 72) rfl ?_
              refine Go.dconst1 C X at_72 (n := 73) rfl ?_
              refine Go.iconst C X at_73 (n := 74) rfl (v := (1 : Int32)) rfl ?_
              have E_a := Q.exa
              refine Go.virt C X eT (argsL := [(.double (FP.i2d p3)), (.double FP.dconst1), (.int (1 : Int32))]) (rest := []) (a := a) (add1 l Z a0 hw n0 _ a (FP.i2d p3) FP.dconst1 (1 : Int32) (nn_i2d _) O Q) (wd hw 35 rfl) (wd hw 36 rfl) (notFace_of_selects (args := #[]) (mvT C.hZ (wd hw 38 rfl))) (wd hw 38 rfl) (wd hw 37 rfl) (wd hw 2 rfl) (wd hw 39 rfl) (by decide) E_a (lenOf pd_6 rfl) rfl at_74 (n := 77) rfl rfl (by decide) (W := 0) rfl (by decide) (by decide) (by decide) ?_
              clear X eT
              intro T h v L X eT hQ
              obtain ⟨r74, rfl, Nq, KK, O, Q⟩ := hQ
              replace N := N.app Nq
              show Go p e below _ (T.setTop (mkF m 77 #[.val (.int p0), .val (.int p1), .val (.int p2), .val (.int p3), .val (.int p4), .val (.int p5), .val (.ref a), .val (.int (1 : Int32)), .val (.int (3 : Int32)), .val (.int (3 : Int32)), .unset] [(.int r74)]))
              refine Go.pop C X at_77 (n := 78) rfl rfl ?_
              refine Go.iload C X at_78 (n := 80) rfl rfl ?_
              refine Go.iconst C X at_80 (n := 81) rfl (v := (3 : Int32)) rfl ?_
              refine Go.icmp_lt C X at_81 (n1 := 97) (n2 := 84) (by decide) (by decide) rfl (fun hc81 => ?_) (fun hc81 => ?_)
              · exact absurd hc81 (by decide)
              · refine Go.aload C X at_84 (n := 86) rfl rfl rfl ?_
                refine Go.iload C X at_86 (n := 88) rfl rfl ?_
                refine Go.i2d C X at_88 (n := 89) rfl ?_
                refine Go.ldc2D C X (wd hw 52 rfl) at_89 (n := 92) rfl ?_
                refine Go.iconst C X at_92 (n := 93) rfl (v := (2 : Int32)) rfl ?_
                have E_a := Q.exa
                refine Go.virt C X eT (argsL := [(.double (FP.i2d p4)), (.double (4611686018427387904 : UInt64)), (.int (2 : Int32))]) (rest := []) (a := a) (add2 l Z a0 hw n0 _ a (FP.i2d p4) (4611686018427387904 : UInt64) (2 : Int32) (nn_i2d _) O Q) (wd hw 35 rfl) (wd hw 36 rfl) (notFace_of_selects (args := #[]) (mvT C.hZ (wd hw 38 rfl))) (wd hw 38 rfl) (wd hw 37 rfl) (wd hw 2 rfl) (wd hw 39 rfl) (by decide) E_a (lenOf pd_6 rfl) rfl at_93 (n := 96) rfl rfl (by decide) (W := 0) rfl (by decide) (by decide) (by decide) ?_
                clear X eT
                intro T h v L X eT hQ
                obtain ⟨r93, rfl, Nq, KK, O, Q⟩ := hQ
                replace N := N.app Nq
                show Go p e below _ (T.setTop (mkF m 96 #[.val (.int p0), .val (.int p1), .val (.int p2), .val (.int p3), .val (.int p4), .val (.int p5), .val (.ref a), .val (.int (1 : Int32)), .val (.int (3 : Int32)), .val (.int (3 : Int32)), .unset] [(.int r93)]))
                refine Go.pop C X at_96 (n := 97) rfl rfl ?_
                refine Go.iload C X at_97 (n := 99) rfl rfl ?_
                refine Go.iconst C X at_99 (n := 100) rfl (v := (1 : Int32)) rfl ?_
                refine Go.icmp_lt C X at_100 (n1 := 109) (n2 := 103) (by decide) (by decide) rfl (fun hc100 => ?_) (fun hc100 => ?_)
                · exact absurd hc100 (by decide)
                · refine Go.aload C X at_103 (n := 105) rfl rfl rfl ?_
                  have E_a := Q.exa
                  refine Go.virt C X eT (argsL := []) (rest := []) (a := a) (poll3 l Z a0 hw n0 _ a _ O Q) (wd hw 40 rfl) (wd hw 41 rfl) (notFace_of_selects (args := #[]) (mvT C.hZ (wd hw 43 rfl))) (wd hw 43 rfl) (wd hw 42 rfl) (wd hw 2 rfl) (wd hw 44 rfl) (by decide) E_a (lenOf pd_7 rfl) rfl at_105 (n := 108) rfl rfl (by decide) (W := 0) rfl (by decide) (by decide) (by decide) ?_
                  clear X eT
                  intro T h v L X eT hQ
                  obtain ⟨r105, rfl, Nq, KK, O, Q⟩ := hQ
                  replace N := N.app Nq
                  show Go p e below _ (T.setTop (mkF m 108 #[.val (.int p0), .val (.int p1), .val (.int p2), .val (.int p3), .val (.int p4), .val (.int p5), .val (.ref a), .val (.int (1 : Int32)), .val (.int (3 : Int32)), .val (.int (3 : Int32)), .unset] [(.int r105)]))
                  refine Go.pop C X at_108 (n := 109) rfl rfl ?_
                  refine Go.iload C X at_109 (n := 111) rfl rfl ?_
                  refine Go.iconst C X at_111 (n := 112) rfl (v := (2 : Int32)) rfl ?_
                  refine Go.icmp_lt C X at_112 (n1 := 121) (n2 := 115) (by decide) (by decide) rfl (fun hc112 => ?_) (fun hc112 => ?_)
                  · exact absurd hc112 (by decide)
                  · refine Go.aload C X at_115 (n := 117) rfl rfl rfl ?_
                    have E_a := Q.exa
                    refine Go.virt C X eT (argsL := []) (rest := []) (a := a) (poll2 l Z a0 hw n0 _ a _ O Q) (wd hw 40 rfl) (wd hw 41 rfl) (notFace_of_selects (args := #[]) (mvT C.hZ (wd hw 43 rfl))) (wd hw 43 rfl) (wd hw 42 rfl) (wd hw 2 rfl) (wd hw 44 rfl) (by decide) E_a (lenOf pd_7 rfl) rfl at_117 (n := 120) rfl rfl (by decide) (W := 0) rfl (by decide) (by decide) (by decide) ?_
                    clear X eT
                    intro T h v L X eT hQ
                    obtain ⟨r117, rfl, Nq, KK, O, Q⟩ := hQ
                    replace N := N.app Nq
                    show Go p e below _ (T.setTop (mkF m 120 #[.val (.int p0), .val (.int p1), .val (.int p2), .val (.int p3), .val (.int p4), .val (.int p5), .val (.ref a), .val (.int (1 : Int32)), .val (.int (3 : Int32)), .val (.int (3 : Int32)), .unset] [(.int r117)]))
                    refine Go.pop C X at_120 (n := 121) rfl rfl ?_
                    refine Go.iload C X at_121 (n := 123) rfl rfl ?_
                    refine Go.iconst C X at_123 (n := 124) rfl (v := (3 : Int32)) rfl ?_
                    refine Go.icmp_lt C X at_124 (n1 := 133) (n2 := 127) (by decide) (by decide) rfl (fun hc124 => ?_) (fun hc124 => ?_)
                    · exact absurd hc124 (by decide)
                    · refine Go.aload C X at_127 (n := 129) rfl rfl rfl ?_
                      have E_a := Q.exa
                      refine Go.virt C X eT (argsL := []) (rest := []) (a := a) (poll1 l Z a0 hw n0 _ a _ O Q) (wd hw 40 rfl) (wd hw 41 rfl) (notFace_of_selects (args := #[]) (mvT C.hZ (wd hw 43 rfl))) (wd hw 43 rfl) (wd hw 42 rfl) (wd hw 2 rfl) (wd hw 44 rfl) (by decide) E_a (lenOf pd_7 rfl) rfl at_129 (n := 132) rfl rfl (by decide) (W := 0) rfl (by decide) (by decide) (by decide) ?_
                      clear X eT
                      intro T h v L X eT hQ
                      obtain ⟨r129, rfl, Nq, KK, O, Q⟩ := hQ
                      replace N := N.app Nq
                      show Go p e below _ (T.setTop (mkF m 132 #[.val (.int p0), .val (.int p1), .val (.int p2), .val (.int p3), .val (.int p4), .val (.int p5), .val (.ref a), .val (.int (1 : Int32)), .val (.int (3 : Int32)), .val (.int (3 : Int32)), .unset] [(.int r129)]))
                      refine Go.pop C X at_132 (n := 133) rfl rfl ?_
                      refine Go.iload C X at_133 (n := 135) rfl rfl ?_
                      refine Go.iload C X at_135 (n := 137) rfl rfl ?_
                      refine Go.icmp_ne C X at_137 (n1 := 144) (n2 := 140) (by decide) (by decide) rfl (fun hc137 => ?_) (fun hc137 => ?_)
                      · exact absurd hc137 (by decide)
                      · refine Go.iconst C X at_140 (n := 141) rfl (v := (1 : Int32)) rfl ?_
                        refine Go.goto C X at_141 (n := 145) (by decide) (by decide) ?_
                        refine Go.istore C X at_145 (n := 147) rfl (l' := #[.val (.int p0), .val (.int p1), .val (.int p2), .val (.int p3), .val (.int p4), .val (.int p5), .val (.ref a), .val (.int (1 : Int32)), .val (.int (3 : Int32)), .val (.int (3 : Int32)), .val (.int (1 : Int32))]) rfl ?_
                        refine Go.iload C X at_147 (n := 149) rfl rfl ?_
                        refine Go.if0_eq C X at_149 (n1 := 166) (n2 := 152) (by decide) (by decide) rfl (fun hc149 => ?_) (fun hc149 => ?_)
                        · exact absurd hc149 (by decide)
                        · refine Go.aload C X at_152 (n := 154) rfl rfl rfl ?_
                          have E_a := Q.exa
                          refine Go.virt C X eT (argsL := []) (rest := []) (a := a) (rm3 l Z a0 hw n0 _ a (0 : Int32) Q.size) (wd hw 21 rfl) (wd hw 22 rfl) (notFace_of_selects (args := #[]) (mvT C.hZ (wd hw 24 rfl))) (wd hw 24 rfl) (wd hw 23 rfl) (wd hw 2 rfl) (wd hw 25 rfl) (by decide) E_a (lenOf pd_5 rfl) rfl at_154 (n := 157) rfl rfl (by decide) (W := 0) rfl (by decide) (by decide) (by decide) ?_
                          clear X eT
                          intro T h' v L X eT hQ
                          obtain ⟨rfl, rfl, hE⟩ := hQ
                          replace hE := hE.symm
                          subst hE
                          replace N := N.app (Fr.nil n0)
                          show Go p e below _ (T.setTop (mkF m 157 #[.val (.int p0), .val (.int p1), .val (.int p2), .val (.int p3), .val (.int p4), .val (.int p5), .val (.ref a), .val (.int (1 : Int32)), .val (.int (3 : Int32)), .val (.int (3 : Int32)), .val (.int (1 : Int32))] [(.int (1 : Int32))]))
                          refine Go.iload C X at_157 (n := 159) rfl rfl ?_
                          refine Go.icmp_ne C X at_159 (n1 := 166) (n2 := 162) (by decide) (by decide) rfl (fun hc159 => ?_) (fun hc159 => ?_)
                          · exact absurd hc159 (by decide)
                          · refine Go.iconst C X at_162 (n := 163) rfl (v := (1 : Int32)) rfl ?_
                            refine Go.goto C X at_163 (n := 167) (by decide) (by decide) ?_
                            refine Go.istore C X at_167 (n := 169) rfl (l' := #[.val (.int p0), .val (.int p1), .val (.int p2), .val (.int p3), .val (.int p4), .val (.int p5), .val (.ref a), .val (.int (1 : Int32)), .val (.int (3 : Int32)), .val (.int (3 : Int32)), .val (.int (1 : Int32))]) rfl ?_
                            refine Go.iload C X at_169 (n := 171) rfl rfl ?_
                            refine Go.iconst C X at_171 (n := 172) rfl (v := (1 : Int32)) rfl ?_
                            refine Go.iand C X at_172 (n := 173) rfl ?_
                            refine Go.if0_eq C X at_173 (n1 := 201) (n2 := 176) (by decide) (by decide) rfl (fun hc173 => ?_) (fun hc173 => ?_)
                            · refine Go.iload C X at_201 (n := 203) rfl rfl ?_
                              refine Go.retN C X eT (Or.inl rfl) (w := (1 : Int32)) (by decide) at_203 (by decide) (by decide) ?_
                              exact ⟨rfl, N⟩
                            · refine Go.aload C X at_176 (n := 178) rfl rfl rfl ?_
                              have E_a := Q.exa
                              refine Go.virt C X eT (argsL := []) (rest := []) (a := a) (rm4 l Z a0 hw n0 _ a _ _ O Q) (wd hw 28 rfl) (wd hw 29 rfl) (notFace_of_selects (args := #[]) (mvT C.hZ (wd hw 31 rfl))) (wd hw 31 rfl) (wd hw 30 rfl) (wd hw 2 rfl) (wd hw 32 rfl) (by decide) E_a (lenOf pd_4 rfl) rfl at_178 (n := 181) rfl rfl (by decide) (W := 0) rfl (by decide) (by decide) (by decide) ?_
                              clear X eT
                              intro T h v L X eT hQ
                              obtain ⟨rfl, Nq, KK, O, Q⟩ := hQ
                              replace N := N.app Nq
                              show Go p e below _ (T.setTop (mkF m 181 #[.val (.int p0), .val (.int p1), .val (.int p2), .val (.int p3), .val (.int p4), .val (.int p5), .val (.ref a), .val (.int (1 : Int32)), .val (.int (3 : Int32)), .val (.int (3 : Int32)), .val (.int (1 : Int32))] []))
                              refine Go.iload C X at_181 (n := 183) rfl rfl ?_
                              refine Go.if0_eq C X at_183 (n1 := 198) (n2 := 186) (by decide) (by decide) rfl (fun hc183 => ?_) (fun hc183 => ?_)
                              · exact absurd hc183 (by decide)
                              · refine Go.aload C X at_186 (n := 188) rfl rfl rfl ?_
                                have E_a := Q.exa
                                refine Go.virt C X eT (argsL := []) (rest := []) (a := a) (rm3 l Z a0 hw n0 _ a (0 : Int32) Q.size) (wd hw 21 rfl) (wd hw 22 rfl) (notFace_of_selects (args := #[]) (mvT C.hZ (wd hw 24 rfl))) (wd hw 24 rfl) (wd hw 23 rfl) (wd hw 2 rfl) (wd hw 25 rfl) (by decide) E_a (lenOf pd_5 rfl) rfl at_188 (n := 191) rfl rfl (by decide) (W := 0) rfl (by decide) (by decide) (by decide) ?_
                                clear X eT
                                intro T h' v L X eT hQ
                                obtain ⟨rfl, rfl, hE⟩ := hQ
                                replace hE := hE.symm
                                subst hE
                                replace N := N.app (Fr.nil n0)
                                show Go p e below _ (T.setTop (mkF m 191 #[.val (.int p0), .val (.int p1), .val (.int p2), .val (.int p3), .val (.int p4), .val (.int p5), .val (.ref a), .val (.int (1 : Int32)), .val (.int (3 : Int32)), .val (.int (3 : Int32)), .val (.int (1 : Int32))] [(.int (1 : Int32))]))
                                refine Go.if0_eq C X at_191 (n1 := 198) (n2 := 194) (by decide) (by decide) rfl (fun hc191 => ?_) (fun hc191 => ?_)
                                · exact absurd hc191 (by decide)
                                · refine Go.iconst C X at_194 (n := 195) rfl (v := (1 : Int32)) rfl ?_
                                  refine Go.goto C X at_195 (n := 199) (by decide) (by decide) ?_
                                  refine Go.istore C X at_199 (n := 201) rfl (l' := #[.val (.int p0), .val (.int p1), .val (.int p2), .val (.int p3), .val (.int p4), .val (.int p5), .val (.ref a), .val (.int (1 : Int32)), .val (.int (3 : Int32)), .val (.int (3 : Int32)), .val (.int (1 : Int32))]) rfl ?_
                                  refine Go.iload C X at_201 (n := 203) rfl rfl ?_
                                  refine Go.retN C X eT (Or.inl rfl) (w := (1 : Int32)) (by decide) at_203 (by decide) (by decide) ?_
                                  exact ⟨rfl, N⟩
        · exact absurd hc39 (by decide)
    · exact absurd hc24 (by decide)
set_option maxRecDepth 65536 in
set_option maxHeartbeats 40000000 in
theorem comes_1 {Post : Tables → Env → Array Value → State → Outcome → State → Prop} (hpost : ∀ tb e args s v u, (limb_1_1.after args s (.returned v) u = true ∧ limb_1_2.after args s (.returned v) u = true ∧ True) → FrameEnd s (.returned v) u (Jvm.fieldLocs frame_1_writes args s ++ Jvm.arrayLocs frame_1_arrays args s ++ Jvm.staticLocs frame_1_statics s) 24 10368 → Post tb e args s (.returned v) u) :
    ArmFor flags0 classFile x code maxLocals ret World_1 tables_1 room_1 Calls_1 rest_1 Pre_1 Post := by
  intro l hfl _ _ p e ha hc hk s m args below hf hA hF happ hP
  obtain ⟨hcalls, hrest, hpre⟩ := hP
  obtain ⟨-, -, -, hnamed, -, -, -, hat⟩ := (Spec.applies_iff hf).mp happ
  obtain ⟨hg, hn⟩ := and_e (Cond.before_iff.mp (show (Jvm.Cond.and given_1 narrow_1).before args s = true from hpre))
  obtain ⟨hcnt, hq0⟩ := and_e hg
  obtain ⟨w0, w1, w2, w3, w4, w5, rfl⟩ : ∃ w0 w1 w2 w3 w4 w5 : Value, args = #[w0, w1, w2, w3, w4, w5] := by
    have hs : args.size = 6 := by simpa [Cond.value, given_1] using hcnt
    obtain ⟨L⟩ := args
    match L, hs with
    | [w0, w1, w2, w3, w4, w5], _ => exact ⟨w0, w1, w2, w3, w4, w5, rfl⟩
  have hw := fun d (hd : d ∈ tables_1) => atoms_spec (ws := Jvm.Cond.code x code maxLocals ret :: tables_1) hat d (List.mem_cons_of_mem _ hd)
  have hfit : Fit s := fun {y c} hc i hi => by
    obtain ⟨ha, rfl⟩ := Array.getElem?_eq_some_iff.mp hc
    have q := List.all_eq_true.mp ((Array.all_eq_true_iff_forall_mem.mp hF) _ (Array.getElem_mem ha)) i (List.mem_range.mpr hi)
    simpa [Array.getElem?_eq_getElem hi] using q
  obtain ⟨ha0, hq1⟩ := and_e hq0
  obtain ⟨i0, e0⟩ := is_v ha0
  obtain rfl : w0 = (.int i0) := Option.some.inj e0
  obtain ⟨ha1, hq2⟩ := and_e hq1
  obtain ⟨i1, e1⟩ := is_v ha1
  obtain rfl : w1 = (.int i1) := Option.some.inj e1
  obtain ⟨ha2, hq3⟩ := and_e hq2
  obtain ⟨i2, e2⟩ := is_v ha2
  obtain rfl : w2 = (.int i2) := Option.some.inj e2
  obtain ⟨ha3, hq4⟩ := and_e hq3
  obtain ⟨i3, e3⟩ := is_v ha3
  obtain rfl : w3 = (.int i3) := Option.some.inj e3
  obtain ⟨ha4, hq5⟩ := and_e hq4
  obtain ⟨i4, e4⟩ := is_v ha4
  obtain rfl : w4 = (.int i4) := Option.some.inj e4
  obtain ⟨i5, e5⟩ := is_v hq5
  obtain rfl : w5 = (.int i5) := Option.some.inj e5
  obtain ⟨n, o, g1, g2, g3, _, L, rfl, ⟨rfl, N⟩, hq⟩ := rm0 l s _ hw s.heap.size s.heap i0 i1 i2 i3 i4 i5 (Old.start s) tables_1 p e ha hc hk s m _ below hf ((Spec.applies_iff_loose hf).mp happ).1 ⟨rfl, State.Warmed39.refl s, rfl⟩ trivial
  refine ⟨n, _, g1, g2, g3, hpost _ _ _ _ _ _ ⟨Cond.after_iff.mpr rfl, Cond.after_iff.mpr (eq_i res_at (Term.int_eval (1)) rfl), trivial⟩ ⟨hq.1, hq.2.1, (hq.2.2.sift fun y hy => Or.inr (N y hy)).mono (by decide) (by decide)⟩⟩
theorem main_1_1 : Claimed_1_1 := comes_1 fun _ _ _ _ _ _ h hF => ⟨h.1, hF⟩
theorem main_1_2 : Claimed_1_2 := comes_1 fun _ _ _ _ _ _ h hF => ⟨h.2.1, hF⟩

end Jvm.Pilot.@@N@@
namespace Jvm.Pilot.@@N@@
open Jvm Jvm.ClassFile Sem Op Lib Jvm.Free Jvm.Stand Jvm.Pilot.@@N@@.Jvm.D
/-! MADE BY PROGRAM (witnessworld.py) out of the Statement's table words and the real class files: 16 classes; the members and pool entries that the words name. The judged class is class 1, her method 1. -/
namespace start1
open Jvm.ClassFile
def u (s : String) : CpInfo := .utf8 (stringToUtf16 s)
/-- a pool by its gaps: so many unusable entries, then the entry; so many at the end -/
def gap : Nat → List CpInfo → List CpInfo
  | 0, r => r
  | n + 1, r => .unusable :: gap n r
def poolList (es : List (Nat × CpInfo)) (last : Nat) : List CpInfo := es.foldr (fun e r => gap e.1 (e.2 :: r)) (gap last [])
def pool (es : List (Nat × CpInfo)) (last : Nat) : Array CpInfo := ⟨poolList es last⟩
def fileOf (pool : Array CpInfo) (this : Nat) (attrs : Array Attribute := #[]) (ms : Array MethodInfo := #[]) (fl : Nat := 33) (sup : Nat := 0) (ifs : Array Nat := #[]) (fds : Array FieldInfo := #[]) : ClassFile where
  minorVersion := 0
  majorVersion := 65
  constantPool := pool
  accessFlags := fl
  thisClass := this
  superClass := sup
  interfaces := ifs
  fields := fds
  methods := ms
  attributes := attrs
def plain (name : String) (sup : Option ClassId) : Class where
  name := name
  kind := .ordinary
  loader := none
  accessFlags := 33
  super := sup
  interfaces := #[]
  cf := none
  fields := #[]
  methods := #[]
  instanceTypes := #[]
  staticTypes := #[]
  resolved := #[]
  callSites := []
  init := .initialized
  statics := none
  mirror := none

def pool0 : Array CpInfo := pool [(5, u "<init>"), (0, u "()V"), (1, .class_ 10), (1, u "java/lang/Object")] 113

def k0c0 : Code := { maxStack := 0, maxLocals := 1, code := object_method_1_code, exceptionTable := #[], attributes := #[] }
def k0m0 : Method := { name := "<init>", desc := "()V", sig := { parameters := [], returnType := none }, accessFlags := 1, code := some k0c0 }
/-- java/lang/Object -/
def k0 : Class := { plain "java/lang/Object" none with
  accessFlags := 33
  interfaces := #[]
  cf := some (fileOf pool0 8 #[] #[{ accessFlags := 1, nameIndex := 5, descriptorIndex := 6, attributes := #[] }] 33 0 #[] #[])
  fields := #[]
  methods := #[k0m0]
  instanceTypes := #[]
  staticTypes := #[]
  resolved := Array.replicate 124 none
  statics := none }

def pool1 : Array CpInfo := pool [(2, .class_ 4), (0, .nameAndType 5 6), (0, u "java/lang/Object"), (0, u "<init>"), (0, u "()V"), (0, .class_ 8), (0, u "com/example/routes_to_timing/routestotiming/routing/SearchQueue"), (0, .methodref 7 3), (0, .methodref 7 11), (0, .nameAndType 12 13), (0, u "isEmpty"), (0, u "()Z"), (0, .methodref 7 15), (0, .nameAndType 16 17), (0, u "add"), (0, u "(DDI)I"), (0, .double 4611686018427387904), (1, .methodref 7 21), (0, .nameAndType 22 23), (0, u "poll"), (0, u "()I"), (0, .methodref 7 25), (0, .nameAndType 26 6), (0, u "clear"), (0, .class_ 28), (0, u "com/example/routes_to_timing/routestotiming/routing/SearchQueueIsEmptyPinLaw"), (2, u "law"), (0, u "(IIIIII)Z")] 3

def k1m0 : Method := { name := "<init>", desc := "()V", sig := { parameters := [], returnType := none }, accessFlags := 2, code := none }
def k1c1 : Code := { maxStack := 6, maxLocals := 11, code := code, exceptionTable := #[], attributes := #[] }
def k1m1 : Method := { name := "law", desc := "(IIIIII)Z", sig := { parameters := [.int, .int, .int, .int, .int, .int], returnType := some .boolean }, accessFlags := 9, code := some k1c1 }
/-- com/example/routes_to_timing/routestotiming/routing/SearchQueueIsEmptyPinLaw -/
def k1 : Class := { plain "com/example/routes_to_timing/routestotiming/routing/SearchQueueIsEmptyPinLaw" (some 0) with
  accessFlags := 49
  interfaces := #[]
  cf := some (fileOf pool1 27 #[] #[{ accessFlags := 2, nameIndex := 5, descriptorIndex := 6, attributes := #[] }, { accessFlags := 9, nameIndex := 31, descriptorIndex := 32, attributes := #[] }] 49 2 #[] #[])
  fields := #[]
  methods := #[k1m0, k1m1]
  instanceTypes := #[]
  staticTypes := #[]
  resolved := Array.replicate 36 none
  statics := none }

def pool2 : Array CpInfo := pool [(1, .methodref 2 3), (0, .class_ 4), (0, .nameAndType 5 6), (0, u "java/lang/Object"), (0, u "<init>"), (0, u "()V"), (0, .class_ 8), (0, u "com/example/routes_to_timing/routestotiming/routing/SearchQueue"), (0, .fieldref 7 10), (0, .nameAndType 11 12), (0, u "keys"), (0, u "[D"), (0, .fieldref 7 14), (0, .nameAndType 15 12), (0, u "values"), (0, .fieldref 7 17), (0, .nameAndType 18 19), (0, u "items"), (0, u "[I"), (0, .fieldref 7 21), (0, .nameAndType 22 19), (0, u "heap"), (0, .fieldref 7 24), (0, .nameAndType 25 12), (0, u "heapKeys"), (0, .fieldref 7 27), (0, .nameAndType 28 29), (0, u "added"), (0, u "I"), (0, .fieldref 7 31), (0, .nameAndType 32 29), (0, u "size"), (3, .methodref 7 37), (0, .nameAndType 38 39), (0, u "before"), (0, u "(DIDI)Z"), (7, .methodref 48 49), (0, .class_ 50), (0, .nameAndType 51 52), (0, u "java/lang/Double"), (0, u "compare"), (0, u "(DD)I"), (9, u "INITIAL_CAPACITY"), (4, u "clear"), (0, u "isEmpty"), (0, u "()Z"), (1, u "add"), (0, u "(DDI)I"), (0, u "poll"), (0, u "()I")] 7

def k2c0 : Code := { maxStack := 2, maxLocals := 1, code := prog_47_method_1_code, exceptionTable := #[], attributes := #[] }
def k2m0 : Method := { name := "<init>", desc := "()V", sig := { parameters := [], returnType := none }, accessFlags := 0, code := some k2c0 }
def k2c1 : Code := { maxStack := 2, maxLocals := 1, code := prog_47_method_2_code, exceptionTable := #[], attributes := #[] }
def k2m1 : Method := { name := "clear", desc := "()V", sig := { parameters := [], returnType := none }, accessFlags := 0, code := some k2c1 }
def k2c2 : Code := { maxStack := 1, maxLocals := 1, code := prog_47_method_3_code, exceptionTable := #[], attributes := #[] }
def k2m2 : Method := { name := "isEmpty", desc := "()Z", sig := { parameters := [], returnType := some .boolean }, accessFlags := 0, code := some k2c2 }
def k2c3 : Code := { maxStack := 7, maxLocals := 9, code := prog_47_method_4_code, exceptionTable := #[], attributes := #[] }
def k2m3 : Method := { name := "add", desc := "(DDI)I", sig := { parameters := [.double, .double, .int], returnType := some .int }, accessFlags := 0, code := some k2c3 }
def k2c4 : Code := { maxStack := 7, maxLocals := 9, code := prog_47_method_5_code, exceptionTable := #[], attributes := #[] }
def k2m4 : Method := { name := "poll", desc := "()I", sig := { parameters := [], returnType := some .int }, accessFlags := 0, code := some k2c4 }
def k2c5 : Code := { maxStack := 4, maxLocals := 7, code := prog_47_method_9_code, exceptionTable := #[], attributes := #[] }
def k2m5 : Method := { name := "before", desc := "(DIDI)Z", sig := { parameters := [.double, .int, .double, .int], returnType := some .boolean }, accessFlags := 10, code := some k2c5 }
/-- com/example/routes_to_timing/routestotiming/routing/SearchQueue -/
def k2 : Class := { plain "com/example/routes_to_timing/routestotiming/routing/SearchQueue" (some 0) with
  accessFlags := 48
  interfaces := #[]
  cf := some (fileOf pool2 7 #[] #[{ accessFlags := 0, nameIndex := 5, descriptorIndex := 6, attributes := #[] }, { accessFlags := 0, nameIndex := 67, descriptorIndex := 6, attributes := #[] }, { accessFlags := 0, nameIndex := 68, descriptorIndex := 69, attributes := #[] }, { accessFlags := 0, nameIndex := 71, descriptorIndex := 72, attributes := #[] }, { accessFlags := 0, nameIndex := 73, descriptorIndex := 74, attributes := #[] }, { accessFlags := 10, nameIndex := 38, descriptorIndex := 39, attributes := #[] }] 48 2 #[] #[{ accessFlags := 26, nameIndex := 62, descriptorIndex := 29, attributes := #[] }, { accessFlags := 2, nameIndex := 11, descriptorIndex := 12, attributes := #[] }, { accessFlags := 2, nameIndex := 15, descriptorIndex := 12, attributes := #[] }, { accessFlags := 2, nameIndex := 18, descriptorIndex := 19, attributes := #[] }, { accessFlags := 2, nameIndex := 22, descriptorIndex := 19, attributes := #[] }, { accessFlags := 2, nameIndex := 25, descriptorIndex := 12, attributes := #[] }, { accessFlags := 2, nameIndex := 28, descriptorIndex := 29, attributes := #[] }, { accessFlags := 2, nameIndex := 32, descriptorIndex := 29, attributes := #[] }])
  fields := #[{ name := "INITIAL_CAPACITY", type := .int, accessFlags := 26, slot := 0, constantValue := 0 }, { name := "keys", type := (.array .double), accessFlags := 2, slot := 0, constantValue := 0 }, { name := "values", type := (.array .double), accessFlags := 2, slot := 1, constantValue := 0 }, { name := "items", type := (.array .int), accessFlags := 2, slot := 2, constantValue := 0 }, { name := "heap", type := (.array .int), accessFlags := 2, slot := 3, constantValue := 0 }, { name := "heapKeys", type := (.array .double), accessFlags := 2, slot := 4, constantValue := 0 }, { name := "added", type := .int, accessFlags := 2, slot := 5, constantValue := 0 }, { name := "size", type := .int, accessFlags := 2, slot := 6, constantValue := 0 }]
  methods := #[k2m0, k2m1, k2m2, k2m3, k2m4, k2m5]
  instanceTypes := #[(.array .double), (.array .double), (.array .int), (.array .int), (.array .double), .int, .int]
  staticTypes := #[.int]
  resolved := Array.replicate 82 none
  statics := none }

def pool3 : Array CpInfo := pool [(1, .class_ 2), (0, u "java/io/Serializable"), (0, .class_ 4), (0, u "java/lang/Object")] 2

/-- java/io/Serializable -/
def k3 : Class := { plain "java/io/Serializable" (some 0) with
  accessFlags := 1537
  interfaces := #[]
  cf := some (fileOf pool3 1 #[] #[] 1537 3 #[] #[])
  fields := #[]
  methods := #[]
  instanceTypes := #[]
  staticTypes := #[]
  resolved := Array.replicate 7 none
  statics := none }

def pool4 : Array CpInfo := pool [(2, .class_ 4), (1, u "java/lang/Object"), (0, u "<init>"), (0, u "()V"), (1, .class_ 10), (1, u "java/lang/Number"), (2, .class_ 14), (0, u "java/io/Serializable"), (0, u "serialVersionUID"), (0, u "J")] 20

def k4m0 : Method := { name := "<init>", desc := "()V", sig := { parameters := [], returnType := none }, accessFlags := 1, code := none }
/-- java/lang/Number -/
def k4 : Class := { plain "java/lang/Number" (some 0) with
  accessFlags := 1057
  interfaces := #[3]
  cf := some (fileOf pool4 8 #[] #[{ accessFlags := 1, nameIndex := 5, descriptorIndex := 6, attributes := #[] }] 1057 2 #[13] #[{ accessFlags := 26, nameIndex := 15, descriptorIndex := 16, attributes := #[] }])
  fields := #[{ name := "serialVersionUID", type := .long, accessFlags := 26, slot := 0, constantValue := 0 }]
  methods := #[k4m0]
  instanceTypes := #[]
  staticTypes := #[.long]
  resolved := Array.replicate 37 none
  statics := none }

def pool5 : Array CpInfo := pool [(1, .class_ 2), (0, u "java/lang/Comparable"), (0, .class_ 4), (0, u "java/lang/Object")] 7

/-- java/lang/Comparable -/
def k5 : Class := { plain "java/lang/Comparable" (some 0) with
  accessFlags := 1537
  interfaces := #[]
  cf := some (fileOf pool5 1 #[] #[] 1537 3 #[] #[])
  fields := #[]
  methods := #[]
  instanceTypes := #[]
  staticTypes := #[]
  resolved := Array.replicate 12 none
  statics := none }

def pool6 : Array CpInfo := pool [(1, .class_ 2), (0, u "java/lang/constant/Constable"), (0, .class_ 4), (0, u "java/lang/Object")] 6

/-- java/lang/constant/Constable -/
def k6 : Class := { plain "java/lang/constant/Constable" (some 0) with
  accessFlags := 1537
  interfaces := #[]
  cf := some (fileOf pool6 1 #[] #[] 1537 3 #[] #[])
  fields := #[]
  methods := #[]
  instanceTypes := #[]
  staticTypes := #[]
  resolved := Array.replicate 11 none
  statics := none }

def pool7 : Array CpInfo := pool [(1, .class_ 2), (0, u "java/lang/constant/ConstantDesc"), (0, .class_ 4), (0, u "java/lang/Object")] 32

/-- java/lang/constant/ConstantDesc -/
def k7 : Class := { plain "java/lang/constant/ConstantDesc" (some 0) with
  accessFlags := 1537
  interfaces := #[]
  cf := some (fileOf pool7 1 #[] #[] 1537 3 #[] #[])
  fields := #[]
  methods := #[]
  instanceTypes := #[]
  staticTypes := #[]
  resolved := Array.replicate 37 none
  statics := none }

def pool8 : Array CpInfo := pool [(1, .class_ 2), (0, u "java/lang/Double"), (11, u "(D)Z"), (31, .methodref 1 47), (0, .nameAndType 48 49), (0, u "doubleToLongBits"), (0, u "(D)J"), (64, .class_ 116), (1, u "java/lang/Number"), (3, u "value"), (0, u "D"), (0, .methodref 1 123), (0, .nameAndType 124 14), (0, u "isNaN"), (9, .methodref 1 135), (0, .nameAndType 136 49), (0, u "doubleToRawLongBits"), (4, u "compare"), (0, u "(DD)I"), (30, u "TYPE"), (0, u "Ljava/lang/Class;"), (0, .class_ 176), (0, u "java/lang/Comparable"), (0, .class_ 178), (0, u "java/lang/constant/Constable"), (0, .class_ 180), (0, u "java/lang/constant/ConstantDesc"), (0, u "POSITIVE_INFINITY"), (3, u "NEGATIVE_INFINITY"), (2, u "NaN"), (2, u "MAX_VALUE"), (0, u "MIN_NORMAL"), (0, u "MIN_VALUE"), (2, u "SIZE"), (0, u "I"), (1, u "PRECISION"), (1, u "MAX_EXPONENT"), (1, u "MIN_EXPONENT"), (1, u "BYTES"), (3, u "serialVersionUID"), (0, u "J")] 79

def k8c0 : Code := { maxStack := 4, maxLocals := 2, code := jdk_117_method_6_code, exceptionTable := #[], attributes := #[] }
def k8m0 : Method := { name := "isNaN", desc := "(D)Z", sig := { parameters := [.double], returnType := some .boolean }, accessFlags := 9, code := some k8c0 }
def k8c1 : Code := { maxStack := 2, maxLocals := 2, code := jdk_117_method_23_code, exceptionTable := #[], attributes := #[] }
def k8m1 : Method := { name := "doubleToLongBits", desc := "(D)J", sig := { parameters := [.double], returnType := some .long }, accessFlags := 9, code := some k8c1 }
def k8m2 : Method := { name := "doubleToRawLongBits", desc := "(D)J", sig := { parameters := [.double], returnType := some .long }, accessFlags := 265, code := none }
def k8c3 : Code := { maxStack := 4, maxLocals := 8, code := jdk_117_method_27_code, exceptionTable := #[], attributes := #[] }
def k8m3 : Method := { name := "compare", desc := "(DD)I", sig := { parameters := [.double, .double], returnType := some .int }, accessFlags := 9, code := some k8c3 }
/-- java/lang/Double -/
def k8 : Class := { plain "java/lang/Double" (some 4) with
  accessFlags := 49
  interfaces := #[5, 6, 7]
  cf := some (fileOf pool8 1 #[] #[{ accessFlags := 9, nameIndex := 124, descriptorIndex := 14, attributes := #[] }, { accessFlags := 9, nameIndex := 48, descriptorIndex := 49, attributes := #[] }, { accessFlags := 265, nameIndex := 136, descriptorIndex := 49, attributes := #[] }, { accessFlags := 9, nameIndex := 141, descriptorIndex := 142, attributes := #[] }] 49 114 #[175, 177, 179] #[{ accessFlags := 25, nameIndex := 181, descriptorIndex := 121, attributes := #[] }, { accessFlags := 25, nameIndex := 185, descriptorIndex := 121, attributes := #[] }, { accessFlags := 25, nameIndex := 188, descriptorIndex := 121, attributes := #[] }, { accessFlags := 25, nameIndex := 191, descriptorIndex := 121, attributes := #[] }, { accessFlags := 25, nameIndex := 192, descriptorIndex := 121, attributes := #[] }, { accessFlags := 25, nameIndex := 193, descriptorIndex := 121, attributes := #[] }, { accessFlags := 25, nameIndex := 196, descriptorIndex := 197, attributes := #[] }, { accessFlags := 25, nameIndex := 199, descriptorIndex := 197, attributes := #[] }, { accessFlags := 25, nameIndex := 201, descriptorIndex := 197, attributes := #[] }, { accessFlags := 25, nameIndex := 203, descriptorIndex := 197, attributes := #[] }, { accessFlags := 25, nameIndex := 205, descriptorIndex := 197, attributes := #[] }, { accessFlags := 25, nameIndex := 173, descriptorIndex := 174, attributes := #[] }, { accessFlags := 18, nameIndex := 120, descriptorIndex := 121, attributes := #[] }, { accessFlags := 26, nameIndex := 209, descriptorIndex := 210, attributes := #[] }])
  fields := #[{ name := "POSITIVE_INFINITY", type := .double, accessFlags := 25, slot := 0, constantValue := 0 }, { name := "NEGATIVE_INFINITY", type := .double, accessFlags := 25, slot := 1, constantValue := 0 }, { name := "NaN", type := .double, accessFlags := 25, slot := 2, constantValue := 0 }, { name := "MAX_VALUE", type := .double, accessFlags := 25, slot := 3, constantValue := 0 }, { name := "MIN_NORMAL", type := .double, accessFlags := 25, slot := 4, constantValue := 0 }, { name := "MIN_VALUE", type := .double, accessFlags := 25, slot := 5, constantValue := 0 }, { name := "SIZE", type := .int, accessFlags := 25, slot := 6, constantValue := 0 }, { name := "PRECISION", type := .int, accessFlags := 25, slot := 7, constantValue := 0 }, { name := "MAX_EXPONENT", type := .int, accessFlags := 25, slot := 8, constantValue := 0 }, { name := "MIN_EXPONENT", type := .int, accessFlags := 25, slot := 9, constantValue := 0 }, { name := "BYTES", type := .int, accessFlags := 25, slot := 10, constantValue := 0 }, { name := "TYPE", type := (.object "java/lang/Class"), accessFlags := 25, slot := 11, constantValue := 0 }, { name := "value", type := .double, accessFlags := 18, slot := 0, constantValue := 0 }, { name := "serialVersionUID", type := .long, accessFlags := 26, slot := 12, constantValue := 0 }]
  methods := #[k8m0, k8m1, k8m2, k8m3]
  instanceTypes := #[.double]
  staticTypes := #[.double, .double, .double, .double, .double, .double, .int, .int, .int, .int, .int, (.object "java/lang/Class"), .long]
  resolved := Array.replicate 290 none
  statics := none }

def pool9 : Array CpInfo := pool [(1, u "java/lang/Cloneable"), (0, .class_ 1), (0, u "java/lang/Object"), (0, .class_ 3)] 3

/-- java/lang/Cloneable -/
def k9 : Class := { plain "java/lang/Cloneable" (some 0) with
  accessFlags := 1537
  interfaces := #[]
  cf := some (fileOf pool9 2 #[] #[] 1537 4 #[] #[])
  fields := #[]
  methods := #[]
  instanceTypes := #[]
  staticTypes := #[]
  resolved := Array.replicate 8 none
  statics := none }

/-- the primitive byte -/
def k10 : Class := { plain "byte" none with kind := .primitive 'B', accessFlags := 0x411 }
/-- [B -/
def k11 : Class := { plain "[B" (some 0) with kind := .array 10 .byte, interfaces := #[9, 3], accessFlags := 1041 }

/-- the primitive double -/
def k12 : Class := { plain "double" none with kind := .primitive 'D', accessFlags := 0x411 }
/-- [D -/
def k13 : Class := { plain "[D" (some 0) with kind := .array 12 .double, interfaces := #[9, 3], accessFlags := 1041 }

/-- the primitive int -/
def k14 : Class := { plain "int" none with kind := .primitive 'I', accessFlags := 0x411 }
/-- [I -/
def k15 : Class := { plain "[I" (some 0) with kind := .array 14 .int, interfaces := #[9, 3], accessFlags := 1041 }

def heap : Heap := #[]
def classes : Array Class := #[k0, k1, k2, k3, k4, k5, k6, k7, k8, k9, k10, k11, k12, k13, k14, k15]
def interned : List (Array UInt16 × Addr) := []
def slotsUsed : Nat := 0
def theMethod : MethodId := ⟨1, 1⟩
def args0 : Array Value := #[.int 5, .int 7, .int 3, .int 4, .int 5, .int 6]
def aboutOver (below : List Frame) : State where
  vm := { classes := classes, interned := interned.toArray }
  heap := heap
  slotsUsed := slotsUsed
  threads := #[{ frames := .invoking theMethod args0 :: below }]
def below0 : List Frame := [.native { method := ⟨0, 0⟩, args := #[] }]
def about1 : State := aboutOver below0
def p0 : Program := .bare "" "" ""
def e0 : Env := launch0.env 0 0 0
theorem w_frames : about1.frames = Frame.invoking theMethod args0 :: below0 := rfl
set_option maxRecDepth 65536 in
theorem w_args : argsFit about1.vm theMethod args0 = true := by decide +kernel
set_option maxRecDepth 65536 in
theorem w_heap : heapFits about1 = true := by decide +kernel
set_option maxRecDepth 65536 in
theorem w_runnable : about1.curStatus? = some .runnable := by decide +kernel
set_option maxRecDepth 65536 in
theorem w_alone : about1.alone = true := by decide +kernel
set_option maxRecDepth 65536 in
theorem w_named : about1.methodNamed? x = some theMethod := by decide +kernel
set_option maxRecDepth 65536 in
theorem w_hears : about1.hears theMethod below0 = true := by decide +kernel
set_option maxRecDepth 65536 in
theorem w_ripe : about1.ripe theMethod args0 below0 = true := by decide +kernel
theorem w_running : about1.status = .running := rfl
set_option maxRecDepth 65536 in
theorem w_room : about1.hasRoom e0.platform room_1 = true :=
  launch0.hasRoom_least _ room_1 (by decide +kernel) (by decide +kernel) (by decide +kernel) (by decide +kernel) (by decide +kernel) (by decide +kernel)
theorem allAtoms_all (ts : List Jvm.Cond) (a : Array Jvm.Value) (st : Jvm.State) : (allAtoms ts).before a st = ts.all (fun c => c.before a st) := by
  induction ts with
  | nil => rfl
  | cons c t ih =>
    show (Jvm.Cond.and c (allAtoms t)).before a st = _
    rw [Jvm.Cond.before_and, ih, List.all_cons]
def words1 : List Jvm.Cond := Jvm.Cond.code x code maxLocals ret :: tables_1
/-- a 'code' word, met by the world's own term for the bytes: nothing is compared byte by byte -/
theorem code_word {y : MethodName} {bytes : ByteArray} {mx : Nat} {rt : Option FieldType} {a : Array Value} {s : State} {m : MethodId} {meth : Method} {c : Code} (h1 : s.methodNamed? y = some m) (h2 : s.vm.method? m = some meth) (h3 : meth.code = some c) (h4 : c.code = bytes)
    (h5 : (c.maxLocals == mx && c.exceptionTable.isEmpty && decide (c.maxStack ≤ mostOperands) && decide (meth.sig.returnType = rt) && !meth.locks && decide (parseMethodDescriptor y.desc = some meth.sig)) = true) : (Jvm.Cond.code y bytes mx rt).before a s = true := by
  simp only [Bool.and_eq_true, beq_iff_eq, Bool.not_eq_true', decide_eq_true_eq] at h5
  obtain ⟨⟨⟨⟨⟨g1, g2⟩, g3⟩, g4⟩, g5⟩, g6⟩ := h5
  simp [Cond.before, Cond.holds, Cond.value, h1, h2, h3, h4, g1, g2, g3, g4, g5, g6]
def isCode : Jvm.Cond → Bool
  | .code _ _ _ _ => true
  | _ => false
theorem all_split {L : List Jvm.Cond} {P : Jvm.Cond → Bool} (h1 : L.all (fun c => isCode c || P c) = true) (h2 : ∀ c ∈ L.filter isCode, P c = true) : L.all P = true := by
  refine List.all_eq_true.mpr fun c hc => ?_
  have h := List.all_eq_true.mp h1 c hc
  rcases Bool.eq_false_or_eq_true (isCode c) with hi | hi
  · exact h2 c (List.mem_filter.mpr ⟨hc, hi⟩)
  · simpa [hi] using h
set_option maxRecDepth 65536 in
theorem w_c0 : (Jvm.Cond.code x code maxLocals ret).before args0 about1 = true := code_word (m := ⟨1, 1⟩) (meth := k1m1) (c := k1c1) (by decide +kernel) rfl rfl rfl (by decide +kernel)
set_option maxRecDepth 65536 in
theorem w_c1 : (Jvm.Cond.code ({ cls := "com/example/routes_to_timing/routestotiming/routing/SearchQueue", name := "<init>", desc := "()V" } : Jvm.MethodName) prog_47_method_1_code (1 : Nat) (Option.none : Option Jvm.ClassFile.FieldType)).before args0 about1 = true := code_word (m := ⟨2, 0⟩) (meth := k2m0) (c := k2c0) (by decide +kernel) rfl rfl rfl (by decide +kernel)
set_option maxRecDepth 65536 in
theorem w_c2 : (Jvm.Cond.code ({ cls := "java/lang/Object", name := "<init>", desc := "()V" } : Jvm.MethodName) object_method_1_code (1 : Nat) (Option.none : Option Jvm.ClassFile.FieldType)).before args0 about1 = true := code_word (m := ⟨0, 0⟩) (meth := k0m0) (c := k0c0) (by decide +kernel) rfl rfl rfl (by decide +kernel)
set_option maxRecDepth 65536 in
theorem w_c3 : (Jvm.Cond.code ({ cls := "com/example/routes_to_timing/routestotiming/routing/SearchQueue", name := "isEmpty", desc := "()Z" } : Jvm.MethodName) prog_47_method_3_code (1 : Nat) (Option.some Jvm.ClassFile.FieldType.boolean)).before args0 about1 = true := code_word (m := ⟨2, 2⟩) (meth := k2m2) (c := k2c2) (by decide +kernel) rfl rfl rfl (by decide +kernel)
set_option maxRecDepth 65536 in
theorem w_c4 : (Jvm.Cond.code ({ cls := "com/example/routes_to_timing/routestotiming/routing/SearchQueue", name := "clear", desc := "()V" } : Jvm.MethodName) prog_47_method_2_code (1 : Nat) (Option.none : Option Jvm.ClassFile.FieldType)).before args0 about1 = true := code_word (m := ⟨2, 1⟩) (meth := k2m1) (c := k2c1) (by decide +kernel) rfl rfl rfl (by decide +kernel)
set_option maxRecDepth 65536 in
theorem w_c5 : (Jvm.Cond.code ({ cls := "com/example/routes_to_timing/routestotiming/routing/SearchQueue", name := "add", desc := "(DDI)I" } : Jvm.MethodName) prog_47_method_4_code (9 : Nat) (Option.some Jvm.ClassFile.FieldType.int)).before args0 about1 = true := code_word (m := ⟨2, 3⟩) (meth := k2m3) (c := k2c3) (by decide +kernel) rfl rfl rfl (by decide +kernel)
set_option maxRecDepth 65536 in
theorem w_c6 : (Jvm.Cond.code ({ cls := "com/example/routes_to_timing/routestotiming/routing/SearchQueue", name := "poll", desc := "()I" } : Jvm.MethodName) prog_47_method_5_code (9 : Nat) (Option.some Jvm.ClassFile.FieldType.int)).before args0 about1 = true := code_word (m := ⟨2, 4⟩) (meth := k2m4) (c := k2c4) (by decide +kernel) rfl rfl rfl (by decide +kernel)
set_option maxRecDepth 65536 in
theorem w_c7 : (Jvm.Cond.code ({ cls := "com/example/routes_to_timing/routestotiming/routing/SearchQueue", name := "before", desc := "(DIDI)Z" } : Jvm.MethodName) prog_47_method_9_code (7 : Nat) (Option.some Jvm.ClassFile.FieldType.boolean)).before args0 about1 = true := code_word (m := ⟨2, 5⟩) (meth := k2m5) (c := k2c5) (by decide +kernel) rfl rfl rfl (by decide +kernel)
set_option maxRecDepth 65536 in
theorem w_c8 : (Jvm.Cond.code ({ cls := "java/lang/Double", name := "compare", desc := "(DD)I" } : Jvm.MethodName) jdk_117_method_27_code (8 : Nat) (Option.some Jvm.ClassFile.FieldType.int)).before args0 about1 = true := code_word (m := ⟨8, 3⟩) (meth := k8m3) (c := k8c3) (by decide +kernel) rfl rfl rfl (by decide +kernel)
set_option maxRecDepth 65536 in
theorem w_c9 : (Jvm.Cond.code ({ cls := "java/lang/Double", name := "doubleToLongBits", desc := "(D)J" } : Jvm.MethodName) jdk_117_method_23_code (2 : Nat) (Option.some Jvm.ClassFile.FieldType.long)).before args0 about1 = true := code_word (m := ⟨8, 1⟩) (meth := k8m1) (c := k8c1) (by decide +kernel) rfl rfl rfl (by decide +kernel)
set_option maxRecDepth 65536 in
theorem w_c10 : (Jvm.Cond.code ({ cls := "java/lang/Double", name := "isNaN", desc := "(D)Z" } : Jvm.MethodName) jdk_117_method_6_code (2 : Nat) (Option.some Jvm.ClassFile.FieldType.boolean)).before args0 about1 = true := code_word (m := ⟨8, 0⟩) (meth := k8m0) (c := k8c0) (by decide +kernel) rfl rfl rfl (by decide +kernel)
def codes1 : List Jvm.Cond := [Jvm.Cond.code x code maxLocals ret, Jvm.Cond.code ({ cls := "com/example/routes_to_timing/routestotiming/routing/SearchQueue", name := "<init>", desc := "()V" } : Jvm.MethodName) prog_47_method_1_code (1 : Nat) (Option.none : Option Jvm.ClassFile.FieldType), Jvm.Cond.code ({ cls := "java/lang/Object", name := "<init>", desc := "()V" } : Jvm.MethodName) object_method_1_code (1 : Nat) (Option.none : Option Jvm.ClassFile.FieldType), Jvm.Cond.code ({ cls := "com/example/routes_to_timing/routestotiming/routing/SearchQueue", name := "isEmpty", desc := "()Z" } : Jvm.MethodName) prog_47_method_3_code (1 : Nat) (Option.some Jvm.ClassFile.FieldType.boolean), Jvm.Cond.code ({ cls := "com/example/routes_to_timing/routestotiming/routing/SearchQueue", name := "clear", desc := "()V" } : Jvm.MethodName) prog_47_method_2_code (1 : Nat) (Option.none : Option Jvm.ClassFile.FieldType), Jvm.Cond.code ({ cls := "com/example/routes_to_timing/routestotiming/routing/SearchQueue", name := "add", desc := "(DDI)I" } : Jvm.MethodName) prog_47_method_4_code (9 : Nat) (Option.some Jvm.ClassFile.FieldType.int), Jvm.Cond.code ({ cls := "com/example/routes_to_timing/routestotiming/routing/SearchQueue", name := "poll", desc := "()I" } : Jvm.MethodName) prog_47_method_5_code (9 : Nat) (Option.some Jvm.ClassFile.FieldType.int), Jvm.Cond.code ({ cls := "com/example/routes_to_timing/routestotiming/routing/SearchQueue", name := "before", desc := "(DIDI)Z" } : Jvm.MethodName) prog_47_method_9_code (7 : Nat) (Option.some Jvm.ClassFile.FieldType.boolean), Jvm.Cond.code ({ cls := "java/lang/Double", name := "compare", desc := "(DD)I" } : Jvm.MethodName) jdk_117_method_27_code (8 : Nat) (Option.some Jvm.ClassFile.FieldType.int), Jvm.Cond.code ({ cls := "java/lang/Double", name := "doubleToLongBits", desc := "(D)J" } : Jvm.MethodName) jdk_117_method_23_code (2 : Nat) (Option.some Jvm.ClassFile.FieldType.long), Jvm.Cond.code ({ cls := "java/lang/Double", name := "isNaN", desc := "(D)Z" } : Jvm.MethodName) jdk_117_method_6_code (2 : Nat) (Option.some Jvm.ClassFile.FieldType.boolean)]
set_option maxRecDepth 65536 in
theorem codes_eq : words1.filter isCode = codes1 := rfl
theorem w_codes : ∀ c ∈ words1.filter isCode, c.before args0 about1 = true := by
  rw [codes_eq]
  intro c hc
  simp only [codes1, List.mem_cons, List.not_mem_nil, or_false] at hc
  rcases hc with rfl | rfl | rfl | rfl | rfl | rfl | rfl | rfl | rfl | rfl | rfl
  · exact w_c0
  · exact w_c1
  · exact w_c2
  · exact w_c3
  · exact w_c4
  · exact w_c5
  · exact w_c6
  · exact w_c7
  · exact w_c8
  · exact w_c9
  · exact w_c10
set_option maxRecDepth 65536 in
theorem w_t1 : (words1.take 24).all (fun c => isCode c || c.before args0 about1) = true := by decide +kernel
set_option maxRecDepth 65536 in
theorem w_t2 : ((words1.drop 24).take 24).all (fun c => isCode c || c.before args0 about1) = true := by decide +kernel
set_option maxRecDepth 65536 in
theorem w_t3 : ((words1.drop 24).drop 24).all (fun c => isCode c || c.before args0 about1) = true := by decide +kernel
theorem w_tables : (allAtoms (Jvm.Cond.code x code maxLocals ret :: tables_1)).before args0 about1 = true := by
  rw [allAtoms_all]
  show words1.all (fun c => c.before args0 about1) = true
  refine all_split ?_ w_codes
  rw [← List.take_append_drop 24 words1, List.all_append, w_t1, ← List.take_append_drop 24 (words1.drop 24), List.all_append, w_t2, w_t3]
  rfl
set_option maxRecDepth 65536 in
theorem w_case : (Jvm.Cond.and given_1 narrow_1).before args0 about1 = true := by decide +kernel
theorem w_applies : (headSpec (Jvm.Cond.code x code maxLocals ret :: tables_1) room_1).applies x e0.platform about1 = true :=
  (Spec.applies_iff w_frames).mpr ⟨w_running, w_runnable, w_alone, w_named, w_hears, w_ripe, w_room, w_tables⟩
theorem atStart : AtStart classFile x code maxLocals ret World_1 tables_1 room_1 Calls_1 rest_1 Pre_1 launch0 p0 e0 about1 theMethod args0 below0 :=
  ⟨lists_1, trivial, launch0.admits_env _ _ _, launch0.least_env, fairChoices_fair.cas, fairChoices_fair.clock, w_frames, w_args, w_heap, w_applies, trivial, trivial, w_case⟩
end start1
theorem witness_1 : WitnessClaimed_1 := ⟨start1.p0, start1.e0, start1.about1, start1.theMethod, start1.args0, start1.below0, start1.atStart⟩
end Jvm.Pilot.@@N@@
