import JvmDerived
import JvmDerived.Pilot.@@N@@Statement
import JvmDerived.Pilot.@@N@@Code
set_option linter.unusedVariables false
set_option linter.unusedSimpArgs false
namespace Jvm.RoadKit
open Sem ClassFile Op Lib Jvm.Stand Jvm.Free Jvm.LawKit
section OwnA
variable {p : Program} {l : Launch} {e : Env} {R : Room} {s : State} {m : MethodId} {args : Array Value} {below : List Frame} {meth : Method} {c : Code} {T : State} {locs : List Loc} {cells slots : Nat} {Z : State} {a0 : Array Value} {h : Heap}
/-- from T the run comes to an end of which K speaks -/
def Go (p : Program) (e : Env) (below : List Frame) (K : Outcome → State → Prop) (T : State) : Prop :=
  ∃ s₂ o, Steps p.tables e below T s₂ ∧ s₂.status = .running ∧ Ended s₂ below o ∧ K o s₂
theorem Go.of {K : Outcome → State → Prop} {T T' : State} (st : ∀ t, Steps p.tables e below T' t → Steps p.tables e below T t) (k : Go p e below K T') : Go p e below K T := by
  obtain ⟨t, o, h1, h2⟩ := k
  exact ⟨t, o, st t h1, h2⟩
/-- what stands through a whole body -/
def Cx (p : Program) (s : State) (m : MethodId) (meth : Method) (c : Code) (Z : State) (own : String) (bytes : ByteArray) (maxL : Nat) (ret : Option FieldType) (nm : String) : Prop :=
  p.tables.exec = Jvm.exec ∧ Z.Warmed39 s.vm ∧ c.code = bytes ∧ c.maxLocals = maxL ∧ s.vm.findClass own = some m.cls ∧ meth.sig.returnType = ret ∧ meth.name = nm ∧ meth.locks = false
variable {own nm : String} {bytes : ByteArray} {maxL : Nat} {ret : Option FieldType} {K : Outcome → State → Prop}
theorem Cx.hx (C : Cx p s m meth c Z own bytes maxL ret nm) : p.tables.exec = Jvm.exec := C.1
theorem Cx.hZ (C : Cx p s m meth c Z own bytes maxL ret nm) : Z.Warmed39 s.vm := C.2.1
theorem Cx.hby (C : Cx p s m meth c Z own bytes maxL ret nm) : c.code = bytes := C.2.2.1
theorem Cx.hml (C : Cx p s m meth c Z own bytes maxL ret nm) : c.maxLocals = maxL := C.2.2.2.1
theorem Cx.hown (C : Cx p s m meth c Z own bytes maxL ret nm) : s.vm.findClass own = some m.cls := C.2.2.2.2.1
theorem Cx.hret (C : Cx p s m meth c Z own bytes maxL ret nm) : meth.sig.returnType = ret := C.2.2.2.2.2.1
theorem Cx.hnm (C : Cx p s m meth c Z own bytes maxL ret nm) : meth.name = nm := C.2.2.2.2.2.2.1
theorem Cx.hlk (C : Cx p s m meth c Z own bytes maxL ret nm) : meth.locks = false := C.2.2.2.2.2.2.2
/-- the end of a body: what it returned, the heap, the places written -/
def EndQ (s : State) (Q : Option Value → Heap → List Loc → Prop) (k n : Nat) (o : Outcome) (t : State) : Prop := ∃ v L, o = .returned v ∧ Q v t.heap L ∧ FrameEnd s o t L k n
/-- a body's contract -/
def Ctr (l : Launch) (Z : State) (y : MethodName) (bytes : ByteArray) (maxL : Nat) (ret : Option FieldType) (rm : Room) (as' : Array Value) (h : Heap) (Q : Option Value → Heap → List Loc → Prop) : Prop :=
  ∀ ws, MetFree l y (head1 (Cond.code y bytes maxL ret :: ws) rm) (fun a U => a = as' ∧ Z.Warmed39 U.vm ∧ U.heap = h) (fun _ _ _ _ _ => True) (fun _ U o U' => EndQ U Q rm.cells rm.slots o U')
theorem Ctr.mk {y : MethodName} {rm : Room} {as' : Array Value} {Q : Option Value → Heap → List Loc → Prop} (hp : plainFor y = true) {ls : Array Slot} (hE : ∀ m : MethodId, entryFrame m as' maxL = mkF m 0 ls [])
    (body : ∀ (p : Program) (e : Env) (s : State) (m : MethodId) (below : List Frame) (meth : Method) (c : Code) (T : State), Cx p s m meth c Z y.cls bytes maxL ret y.name → Stand p l e rm s m as' below meth c T [] 0 0 → T.heap = h → s.heap = h → Go p e below (EndQ s Q rm.cells rm.slots) (T.setTop (mkF m 0 ls []))) :
    Ctr l Z y bytes maxL ret rm as' h Q := by
  intro ws
  refine MetFree.of_bodySF hp hisR ?_
  intro p e s m args below meth c s₁ Bd hml0 hP hK
  obtain ⟨rfl, hZ, hh⟩ := hP
  have q := body p e s m below meth c s₁ ⟨Bd.exec, hZ, Bd.bytes, hml0, findClass_of_methodNamed Bd.named, Bd.returns, (name_of_methodNamed Bd.named Bd.method).1, BodyLoose.notSynchronized Bd⟩ (Stand.of_body Bd) (by rw [← hh, Bd.state]; rfl) hh
  rw [← hE m] at q
  exact q
theorem Ctr.mono {y : MethodName} {rm : Room} {as' : Array Value} {Q Q' : Option Value → Heap → List Loc → Prop} (h1 : Ctr l Z y bytes maxL ret rm as' h Q) (h2 : ∀ v h' L, Q v h' L → Q' v h' L) : Ctr l Z y bytes maxL ret rm as' h Q' :=
  fun ws p e ha hc hk s m args below hf happ hP hK => by
    obtain ⟨n, o, g1, g2, g3, v, L, g4, g5, g6⟩ := h1 ws p e ha hc hk s m args below hf happ hP hK
    exact ⟨n, o, g1, g2, g3, v, L, g4, h2 _ _ _ g5, g6⟩
theorem Go.fin (C : Cx p s m meth c Z own bytes maxL ret nm) (X : Stand p l e R s m args below meth c T locs cells slots) (eT : T.heap = h) {v : Option Value} (hv : ret = none → v = none) {Q : Option Value → Heap → List Loc → Prop} {k n : Nat} (hQ : Q v h locs) (hc : cells ≤ k) (hn : slots ≤ n) {g : JFrame}
    (st : ∀ fs, (∀ (f : JFrame) (acts : List Action), f.method = m → f.locked = none → f.entered = [] → (doReturn e (T.setTop f) acts v).1 = T.setFrames fs) → Steps p.tables e below (T.setTop g) (T.setFrames fs)) : Go p e below (EndQ s Q k n) (T.setTop g) := by
  obtain ⟨fs, hr, hrun, hended, hW, hsame⟩ := X.leave (v := v) (fun h => hv (C.hret ▸ h)) C.hlk
  subst eT
  exact ⟨_, _, st fs hr, hrun, hended, _, _, rfl, hQ, ⟨_, rfl⟩, hW, hsame.mono hc hn⟩
theorem Go.ret0 (C : Cx p s m meth c Z own bytes maxL none nm) (X : Stand p l e R s m args below meth c T locs cells slots) (eT : T.heap = h) {pc : Nat} {ls : Array Slot} {Q : Option Value → Heap → List Loc → Prop} {k n : Nat} (hd : decode bytes pc = .ok (.return_, 1)) (hc : cells ≤ k) (hn : slots ≤ n) (hQ : Q none h locs) : Go p e below (EndQ s Q k n) (T.setTop (mkF m pc ls [])) :=
  Go.fin C X eT (v := none) (fun _ => rfl) hQ hc hn fun fs hr => X.returnOut C.hx C.hret (hb C.hby hd) hr
theorem Go.retI (C : Cx p s m meth c Z own bytes maxL (some .int) nm) (X : Stand p l e R s m args below meth c T locs cells slots) (eT : T.heap = h) {pc : Nat} {ls : Array Slot} {z : Int32} {rest : List Value} {Q : Option Value → Heap → List Loc → Prop} {k n : Nat} (hd : decode bytes pc = .ok (.ireturn, 1)) (hc : cells ≤ k) (hn : slots ≤ n) (hQ : Q (some (.int z)) h locs) : Go p e below (EndQ s Q k n) (T.setTop (mkF m pc ls (.int z :: rest))) :=
  Go.fin C X eT (v := some (.int z)) (fun h => nomatch h) hQ hc hn fun fs hr => retOut X C.hx C.hret rfl (Or.inl ⟨rfl, Or.inl rfl, z, rfl⟩) (hb C.hby hd) hr
theorem Go.retJ (C : Cx p s m meth c Z own bytes maxL (some .long) nm) (X : Stand p l e R s m args below meth c T locs cells slots) (eT : T.heap = h) {pc : Nat} {ls : Array Slot} {z : Int64} {rest : List Value} {Q : Option Value → Heap → List Loc → Prop} {k n : Nat} (hd : decode bytes pc = .ok (.lreturn, 1)) (hc : cells ≤ k) (hn : slots ≤ n) (hQ : Q (some (.long z)) h locs) : Go p e below (EndQ s Q k n) (T.setTop (mkF m pc ls (.long z :: rest))) :=
  Go.fin C X eT (v := some (.long z)) (fun h => nomatch h) hQ hc hn fun fs hr => retOut X C.hx C.hret rfl (Or.inr (Or.inl ⟨rfl, rfl, z, rfl⟩)) (hb C.hby hd) hr
theorem Go.retA {t : FieldType} (C : Cx p s m meth c Z own bytes maxL (some t) nm) (X : Stand p l e R s m args below meth c T locs cells slots) (eT : T.heap = h) {pc : Nat} {ls : Array Slot} {w : Value} {rest : List Value} {Q : Option Value → Heap → List Loc → Prop} {k n : Nat} (ht : t.isReference = true) (hn0 : narrow t w = w) (hw : w.isRef = true) (hd : decode bytes pc = .ok (.areturn, 1)) (hc : cells ≤ k) (hn : slots ≤ n) (hQ : Q (some w) h locs) : Go p e below (EndQ s Q k n) (T.setTop (mkF m pc ls (w :: rest))) :=
  Go.fin C X eT (v := some w) (fun h => nomatch h) hQ hc hn fun fs hr => retOut X C.hx C.hret hn0 (Or.inr (Or.inr (Or.inr (Or.inr ⟨rfl, ht, hw⟩)))) (hb C.hby hd) hr
theorem Go.retN {t : FieldType} (C : Cx p s m meth c Z own bytes maxL (some t) nm) (X : Stand p l e R s m args below meth c T locs cells slots) (eT : T.heap = h) {pc : Nat} {ls : Array Slot} {z w : Int32} {rest : List Value} {Q : Option Value → Heap → List Loc → Prop} {k n : Nat} (ht : t = .boolean ∨ t = .byte ∨ t = .char ∨ t = .short) (hw : nar t z = w) (hd : decode bytes pc = .ok (.ireturn, 1)) (hc : cells ≤ k) (hn : slots ≤ n) (hQ : Q (some (.int w)) h locs) : Go p e below (EndQ s Q k n) (T.setTop (mkF m pc ls (.int z :: rest))) := by
  subst hw
  exact Go.fin C X eT (v := some (.int (nar t z))) (fun h => nomatch h) hQ hc hn fun fs hr => Jvm.RoadKit.retN X C.hx C.hret ht (hb C.hby hd) hr
theorem Go.iloadN (C : Cx p s m meth c Z own bytes maxL ret nm) (X : Stand p l e R s m args below meth c T locs cells slots) {pc n : Nat} {ls : Array Slot} {rest : List Value} {k : Fin 4} {v : Int32} (hd : decode bytes pc = .ok (.iload_n k, 1)) (hn : pc + 1 = n) (hl : ls[k.val]? = some (.val (.int v))) (k : Go p e below K (T.setTop (mkF m n ls (.int v :: rest)))) : Go p e below K (T.setTop (mkF m pc ls (rest))) := by
  subst hn
  exact Go.of (fun t q => XS.iloadN X.here C.hx rfl (hb C.hby hd) hl q) k
theorem Go.iload (C : Cx p s m meth c Z own bytes maxL ret nm) (X : Stand p l e R s m args below meth c T locs cells slots) {pc n : Nat} {ls : Array Slot} {rest : List Value} {k : Nat} {v : Int32} (hd : decode bytes pc = .ok (.iload k, 2)) (hn : pc + 2 = n) (hl : ls[k]? = some (.val (.int v))) (k : Go p e below K (T.setTop (mkF m n ls (.int v :: rest)))) : Go p e below K (T.setTop (mkF m pc ls (rest))) := by
  subst hn
  exact Go.of (fun t q => XS.iload X.here C.hx rfl (hb C.hby hd) hl q) k
theorem Go.istoreN (C : Cx p s m meth c Z own bytes maxL ret nm) (X : Stand p l e R s m args below meth c T locs cells slots) {pc n : Nat} {ls : Array Slot} {rest : List Value} {k : Fin 4} {v : Int32} {l' : Array Slot} (hd : decode bytes pc = .ok (.istore_n k, 1)) (hn : pc + 1 = n) (hl : storeLocals ls k.val (.int v) = some l') (k : Go p e below K (T.setTop (mkF m n l' (rest)))) : Go p e below K (T.setTop (mkF m pc ls (.int v :: rest))) := by
  subst hn
  exact Go.of (fun t q => XS.istoreN X.here C.hx rfl (hb C.hby hd) rfl hl q) k
theorem Go.istore (C : Cx p s m meth c Z own bytes maxL ret nm) (X : Stand p l e R s m args below meth c T locs cells slots) {pc n : Nat} {ls : Array Slot} {rest : List Value} {k : Nat} {v : Int32} {l' : Array Slot} (hd : decode bytes pc = .ok (.istore k, 2)) (hn : pc + 2 = n) (hl : storeLocals ls k (.int v) = some l') (k : Go p e below K (T.setTop (mkF m n l' (rest)))) : Go p e below K (T.setTop (mkF m pc ls (.int v :: rest))) := by
  subst hn
  exact Go.of (fun t q => XS.istore X.here C.hx rfl (hb C.hby hd) rfl hl q) k
theorem Go.lloadN (C : Cx p s m meth c Z own bytes maxL ret nm) (X : Stand p l e R s m args below meth c T locs cells slots) {pc n : Nat} {ls : Array Slot} {rest : List Value} {k : Fin 4} {v : Int64} (hd : decode bytes pc = .ok (.lload_n k, 1)) (hn : pc + 1 = n) (hl : ls[k.val]? = some (.val (.long v))) (k : Go p e below K (T.setTop (mkF m n ls (.long v :: rest)))) : Go p e below K (T.setTop (mkF m pc ls (rest))) := by
  subst hn
  exact Go.of (fun t q => XT.lloadN X.here C.hx rfl (hb C.hby hd) hl q) k
theorem Go.lload (C : Cx p s m meth c Z own bytes maxL ret nm) (X : Stand p l e R s m args below meth c T locs cells slots) {pc n : Nat} {ls : Array Slot} {rest : List Value} {k : Nat} {v : Int64} (hd : decode bytes pc = .ok (.lload k, 2)) (hn : pc + 2 = n) (hl : ls[k]? = some (.val (.long v))) (k : Go p e below K (T.setTop (mkF m n ls (.long v :: rest)))) : Go p e below K (T.setTop (mkF m pc ls (rest))) := by
  subst hn
  exact Go.of (fun t q => XT.lload X.here C.hx rfl (hb C.hby hd) hl q) k
theorem Go.lstoreN (C : Cx p s m meth c Z own bytes maxL ret nm) (X : Stand p l e R s m args below meth c T locs cells slots) {pc n : Nat} {ls : Array Slot} {rest : List Value} {k : Fin 4} {v : Int64} {l' : Array Slot} (hd : decode bytes pc = .ok (.lstore_n k, 1)) (hn : pc + 1 = n) (hl : storeLocals ls k.val (.long v) = some l') (k : Go p e below K (T.setTop (mkF m n l' (rest)))) : Go p e below K (T.setTop (mkF m pc ls (.long v :: rest))) := by
  subst hn
  exact Go.of (fun t q => XT.lstoreN X.here C.hx rfl (hb C.hby hd) rfl hl q) k
theorem Go.lstore (C : Cx p s m meth c Z own bytes maxL ret nm) (X : Stand p l e R s m args below meth c T locs cells slots) {pc n : Nat} {ls : Array Slot} {rest : List Value} {k : Nat} {v : Int64} {l' : Array Slot} (hd : decode bytes pc = .ok (.lstore k, 2)) (hn : pc + 2 = n) (hl : storeLocals ls k (.long v) = some l') (k : Go p e below K (T.setTop (mkF m n l' (rest)))) : Go p e below K (T.setTop (mkF m pc ls (.long v :: rest))) := by
  subst hn
  exact Go.of (fun t q => XT.lstore X.here C.hx rfl (hb C.hby hd) rfl hl q) k
theorem Go.aloadN (C : Cx p s m meth c Z own bytes maxL ret nm) (X : Stand p l e R s m args below meth c T locs cells slots) {pc n : Nat} {ls : Array Slot} {rest : List Value} {k : Fin 4} {v : Value} (hd : decode bytes pc = .ok (.aload_n k, 1)) (hn : pc + 1 = n) (hl : ls[k.val]? = some (.val v)) (hv : v.isRef = true) (k : Go p e below K (T.setTop (mkF m n ls (v :: rest)))) : Go p e below K (T.setTop (mkF m pc ls (rest))) := by
  subst hn
  exact Go.of (fun t q => XS.aloadN X.here C.hx rfl (hb C.hby hd) hl hv q) k
theorem Go.aload (C : Cx p s m meth c Z own bytes maxL ret nm) (X : Stand p l e R s m args below meth c T locs cells slots) {pc n : Nat} {ls : Array Slot} {rest : List Value} {k : Nat} {v : Value} (hd : decode bytes pc = .ok (.aload k, 2)) (hn : pc + 2 = n) (hl : ls[k]? = some (.val v)) (hv : v.isRef = true) (k : Go p e below K (T.setTop (mkF m n ls (v :: rest)))) : Go p e below K (T.setTop (mkF m pc ls (rest))) := by
  subst hn
  exact Go.of (fun t q => XS.aload X.here C.hx rfl (hb C.hby hd) hl hv q) k
theorem Go.astoreN (C : Cx p s m meth c Z own bytes maxL ret nm) (X : Stand p l e R s m args below meth c T locs cells slots) {pc n : Nat} {ls : Array Slot} {rest : List Value} {k : Fin 4} {v : Value} {l' : Array Slot} (hd : decode bytes pc = .ok (.astore_n k, 1)) (hn : pc + 1 = n) (hv : v.isRef = true) (hl : storeLocals ls k.val v = some l') (k : Go p e below K (T.setTop (mkF m n l' (rest)))) : Go p e below K (T.setTop (mkF m pc ls (v :: rest))) := by
  subst hn
  exact Go.of (fun t q => XS.astoreN X.here C.hx rfl (hb C.hby hd) rfl hv hl q) k
theorem Go.astore (C : Cx p s m meth c Z own bytes maxL ret nm) (X : Stand p l e R s m args below meth c T locs cells slots) {pc n : Nat} {ls : Array Slot} {rest : List Value} {k : Nat} {v : Value} {l' : Array Slot} (hd : decode bytes pc = .ok (.astore k, 2)) (hn : pc + 2 = n) (hv : v.isRef = true) (hl : storeLocals ls k v = some l') (k : Go p e below K (T.setTop (mkF m n l' (rest)))) : Go p e below K (T.setTop (mkF m pc ls (v :: rest))) := by
  subst hn
  exact Go.of (fun t q => XS.astore X.here C.hx rfl (hb C.hby hd) rfl hv hl q) k
theorem Go.iconst (C : Cx p s m meth c Z own bytes maxL ret nm) (X : Stand p l e R s m args below meth c T locs cells slots) {pc n : Nat} {ls : Array Slot} {rest : List Value} {i : Int} {v : Int32} (hd : decode bytes pc = .ok (.iconst i, 1)) (hn : pc + 1 = n) (hv : Int32.ofInt i = v) (k : Go p e below K (T.setTop (mkF m n ls (.int v :: rest)))) : Go p e below K (T.setTop (mkF m pc ls (rest))) := by
  subst hn
  exact Go.of (fun t q => XT.iconstV X.here C.hx rfl v (hb C.hby hd) hv q) k
theorem Go.bipush (C : Cx p s m meth c Z own bytes maxL ret nm) (X : Stand p l e R s m args below meth c T locs cells slots) {pc n : Nat} {ls : Array Slot} {rest : List Value} {i : Int} {v : Int32} (hd : decode bytes pc = .ok (.bipush i, 2)) (hn : pc + 2 = n) (hv : (Int8.ofInt i).toInt32 = v) (k : Go p e below K (T.setTop (mkF m n ls (.int v :: rest)))) : Go p e below K (T.setTop (mkF m pc ls (rest))) := by
  subst hn
  exact Go.of (fun t q => XT.bipushV X.here C.hx rfl v (hb C.hby hd) hv q) k
theorem Go.sipush (C : Cx p s m meth c Z own bytes maxL ret nm) (X : Stand p l e R s m args below meth c T locs cells slots) {pc n : Nat} {ls : Array Slot} {rest : List Value} {i : Int} {v : Int32} (hd : decode bytes pc = .ok (.sipush i, 3)) (hn : pc + 3 = n) (hv : (Int16.ofInt i).toInt32 = v) (k : Go p e below K (T.setTop (mkF m n ls (.int v :: rest)))) : Go p e below K (T.setTop (mkF m pc ls (rest))) := by
  subst hn
  exact Go.of (fun t q => XT.sipushV X.here C.hx rfl v (hb C.hby hd) hv q) k
theorem Go.lconst (C : Cx p s m meth c Z own bytes maxL ret nm) (X : Stand p l e R s m args below meth c T locs cells slots) {pc n : Nat} {ls : Array Slot} {rest : List Value} {i : Fin 2} {v : Int64} (hd : decode bytes pc = .ok (.lconst i, 1)) (hn : pc + 1 = n) (hv : Int64.ofNat i = v) (k : Go p e below K (T.setTop (mkF m n ls (.long v :: rest)))) : Go p e below K (T.setTop (mkF m pc ls (rest))) := by
  subst hn
  exact Go.of (fun t q => XT.lconstV X.here C.hx rfl v (hb C.hby hd) hv q) k
theorem Go.aconstNull (C : Cx p s m meth c Z own bytes maxL ret nm) (X : Stand p l e R s m args below meth c T locs cells slots) {pc n : Nat} {ls : Array Slot} {rest : List Value}  (hd : decode bytes pc = .ok (.aconst_null, 1)) (hn : pc + 1 = n) (k : Go p e below K (T.setTop (mkF m n ls (.null :: rest)))) : Go p e below K (T.setTop (mkF m pc ls (rest))) := by
  subst hn
  exact Go.of (fun t q => XS.aconstNull X.here C.hx rfl (hb C.hby hd) q) k
theorem Go.iadd (C : Cx p s m meth c Z own bytes maxL ret nm) (X : Stand p l e R s m args below meth c T locs cells slots) {pc n : Nat} {ls : Array Slot} {rest : List Value} {x y : Int32} (hd : decode bytes pc = .ok (.iadd, 1)) (hn : pc + 1 = n) (k : Go p e below K (T.setTop (mkF m n ls (.int (x + y) :: rest)))) : Go p e below K (T.setTop (mkF m pc ls (.int y :: .int x :: rest))) := by
  subst hn
  exact Go.of (fun t q => XS.iadd X.here C.hx rfl (hb C.hby hd) rfl q) k
theorem Go.ladd (C : Cx p s m meth c Z own bytes maxL ret nm) (X : Stand p l e R s m args below meth c T locs cells slots) {pc n : Nat} {ls : Array Slot} {rest : List Value} {x y : Int64} (hd : decode bytes pc = .ok (.ladd, 1)) (hn : pc + 1 = n) (k : Go p e below K (T.setTop (mkF m n ls (.long (x + y) :: rest)))) : Go p e below K (T.setTop (mkF m pc ls (.long y :: .long x :: rest))) := by
  subst hn
  exact Go.of (fun t q => XT.ladd X.here C.hx rfl (hb C.hby hd) rfl q) k
theorem Go.isub (C : Cx p s m meth c Z own bytes maxL ret nm) (X : Stand p l e R s m args below meth c T locs cells slots) {pc n : Nat} {ls : Array Slot} {rest : List Value} {x y : Int32} (hd : decode bytes pc = .ok (.isub, 1)) (hn : pc + 1 = n) (k : Go p e below K (T.setTop (mkF m n ls (.int (x - y) :: rest)))) : Go p e below K (T.setTop (mkF m pc ls (.int y :: .int x :: rest))) := by
  subst hn
  exact Go.of (fun t q => XS.isub X.here C.hx rfl (hb C.hby hd) rfl q) k
theorem Go.lsub (C : Cx p s m meth c Z own bytes maxL ret nm) (X : Stand p l e R s m args below meth c T locs cells slots) {pc n : Nat} {ls : Array Slot} {rest : List Value} {x y : Int64} (hd : decode bytes pc = .ok (.lsub, 1)) (hn : pc + 1 = n) (k : Go p e below K (T.setTop (mkF m n ls (.long (x - y) :: rest)))) : Go p e below K (T.setTop (mkF m pc ls (.long y :: .long x :: rest))) := by
  subst hn
  exact Go.of (fun t q => XT.lsub X.here C.hx rfl (hb C.hby hd) rfl q) k
theorem Go.imul (C : Cx p s m meth c Z own bytes maxL ret nm) (X : Stand p l e R s m args below meth c T locs cells slots) {pc n : Nat} {ls : Array Slot} {rest : List Value} {x y : Int32} (hd : decode bytes pc = .ok (.imul, 1)) (hn : pc + 1 = n) (k : Go p e below K (T.setTop (mkF m n ls (.int (x * y) :: rest)))) : Go p e below K (T.setTop (mkF m pc ls (.int y :: .int x :: rest))) := by
  subst hn
  exact Go.of (fun t q => XS.imul X.here C.hx rfl (hb C.hby hd) rfl q) k
theorem Go.lmul (C : Cx p s m meth c Z own bytes maxL ret nm) (X : Stand p l e R s m args below meth c T locs cells slots) {pc n : Nat} {ls : Array Slot} {rest : List Value} {x y : Int64} (hd : decode bytes pc = .ok (.lmul, 1)) (hn : pc + 1 = n) (k : Go p e below K (T.setTop (mkF m n ls (.long (x * y) :: rest)))) : Go p e below K (T.setTop (mkF m pc ls (.long y :: .long x :: rest))) := by
  subst hn
  exact Go.of (fun t q => XT.lmul X.here C.hx rfl (hb C.hby hd) rfl q) k
theorem Go.iand (C : Cx p s m meth c Z own bytes maxL ret nm) (X : Stand p l e R s m args below meth c T locs cells slots) {pc n : Nat} {ls : Array Slot} {rest : List Value} {x y : Int32} (hd : decode bytes pc = .ok (.iand, 1)) (hn : pc + 1 = n) (k : Go p e below K (T.setTop (mkF m n ls (.int (x &&& y) :: rest)))) : Go p e below K (T.setTop (mkF m pc ls (.int y :: .int x :: rest))) := by
  subst hn
  exact Go.of (fun t q => XS.iand X.here C.hx rfl (hb C.hby hd) rfl q) k
theorem Go.land (C : Cx p s m meth c Z own bytes maxL ret nm) (X : Stand p l e R s m args below meth c T locs cells slots) {pc n : Nat} {ls : Array Slot} {rest : List Value} {x y : Int64} (hd : decode bytes pc = .ok (.land, 1)) (hn : pc + 1 = n) (k : Go p e below K (T.setTop (mkF m n ls (.long (x &&& y) :: rest)))) : Go p e below K (T.setTop (mkF m pc ls (.long y :: .long x :: rest))) := by
  subst hn
  exact Go.of (fun t q => XT.land X.here C.hx rfl (hb C.hby hd) rfl q) k
theorem Go.ior (C : Cx p s m meth c Z own bytes maxL ret nm) (X : Stand p l e R s m args below meth c T locs cells slots) {pc n : Nat} {ls : Array Slot} {rest : List Value} {x y : Int32} (hd : decode bytes pc = .ok (.ior, 1)) (hn : pc + 1 = n) (k : Go p e below K (T.setTop (mkF m n ls (.int (x ||| y) :: rest)))) : Go p e below K (T.setTop (mkF m pc ls (.int y :: .int x :: rest))) := by
  subst hn
  exact Go.of (fun t q => XT.ior X.here C.hx rfl (hb C.hby hd) rfl q) k
theorem Go.lor (C : Cx p s m meth c Z own bytes maxL ret nm) (X : Stand p l e R s m args below meth c T locs cells slots) {pc n : Nat} {ls : Array Slot} {rest : List Value} {x y : Int64} (hd : decode bytes pc = .ok (.lor, 1)) (hn : pc + 1 = n) (k : Go p e below K (T.setTop (mkF m n ls (.long (x ||| y) :: rest)))) : Go p e below K (T.setTop (mkF m pc ls (.long y :: .long x :: rest))) := by
  subst hn
  exact Go.of (fun t q => XT.lor X.here C.hx rfl (hb C.hby hd) rfl q) k
theorem Go.ixor (C : Cx p s m meth c Z own bytes maxL ret nm) (X : Stand p l e R s m args below meth c T locs cells slots) {pc n : Nat} {ls : Array Slot} {rest : List Value} {x y : Int32} (hd : decode bytes pc = .ok (.ixor, 1)) (hn : pc + 1 = n) (k : Go p e below K (T.setTop (mkF m n ls (.int (x ^^^ y) :: rest)))) : Go p e below K (T.setTop (mkF m pc ls (.int y :: .int x :: rest))) := by
  subst hn
  exact Go.of (fun t q => XT.ixor X.here C.hx rfl (hb C.hby hd) rfl q) k
theorem Go.lxor (C : Cx p s m meth c Z own bytes maxL ret nm) (X : Stand p l e R s m args below meth c T locs cells slots) {pc n : Nat} {ls : Array Slot} {rest : List Value} {x y : Int64} (hd : decode bytes pc = .ok (.lxor, 1)) (hn : pc + 1 = n) (k : Go p e below K (T.setTop (mkF m n ls (.long (x ^^^ y) :: rest)))) : Go p e below K (T.setTop (mkF m pc ls (.long y :: .long x :: rest))) := by
  subst hn
  exact Go.of (fun t q => XT.lxor X.here C.hx rfl (hb C.hby hd) rfl q) k
theorem Go.ishl (C : Cx p s m meth c Z own bytes maxL ret nm) (X : Stand p l e R s m args below meth c T locs cells slots) {pc n : Nat} {ls : Array Slot} {rest : List Value} {x y : Int32} (hd : decode bytes pc = .ok (.ishl, 1)) (hn : pc + 1 = n) (k : Go p e below K (T.setTop (mkF m n ls (.int (x <<< (y &&& 31)) :: rest)))) : Go p e below K (T.setTop (mkF m pc ls (.int y :: .int x :: rest))) := by
  subst hn
  exact Go.of (fun t q => XT.ishl X.here C.hx rfl (hb C.hby hd) rfl q) k
theorem Go.ishr (C : Cx p s m meth c Z own bytes maxL ret nm) (X : Stand p l e R s m args below meth c T locs cells slots) {pc n : Nat} {ls : Array Slot} {rest : List Value} {x y : Int32} (hd : decode bytes pc = .ok (.ishr, 1)) (hn : pc + 1 = n) (k : Go p e below K (T.setTop (mkF m n ls (.int (x >>> (y &&& 31)) :: rest)))) : Go p e below K (T.setTop (mkF m pc ls (.int y :: .int x :: rest))) := by
  subst hn
  exact Go.of (fun t q => XT.ishr X.here C.hx rfl (hb C.hby hd) rfl q) k
theorem Go.iushr (C : Cx p s m meth c Z own bytes maxL ret nm) (X : Stand p l e R s m args below meth c T locs cells slots) {pc n : Nat} {ls : Array Slot} {rest : List Value} {x y : Int32} (hd : decode bytes pc = .ok (.iushr, 1)) (hn : pc + 1 = n) (k : Go p e below K (T.setTop (mkF m n ls (.int (XT.ushr x y) :: rest)))) : Go p e below K (T.setTop (mkF m pc ls (.int y :: .int x :: rest))) := by
  subst hn
  exact Go.of (fun t q => XT.iushr X.here C.hx rfl (hb C.hby hd) rfl q) k
theorem Go.idiv (C : Cx p s m meth c Z own bytes maxL ret nm) (X : Stand p l e R s m args below meth c T locs cells slots) {pc n : Nat} {ls : Array Slot} {rest : List Value} {x y : Int32} (hd : decode bytes pc = .ok (.idiv, 1)) (hn : pc + 1 = n) (hy : y ≠ 0) (k : Go p e below K (T.setTop (mkF m n ls (.int (x / y) :: rest)))) : Go p e below K (T.setTop (mkF m pc ls (.int y :: .int x :: rest))) := by
  subst hn
  exact Go.of (fun t q => XS.idiv X.here C.hx rfl (hb C.hby hd) rfl hy q) k
theorem Go.irem (C : Cx p s m meth c Z own bytes maxL ret nm) (X : Stand p l e R s m args below meth c T locs cells slots) {pc n : Nat} {ls : Array Slot} {rest : List Value} {x y : Int32} (hd : decode bytes pc = .ok (.irem, 1)) (hn : pc + 1 = n) (hy : y ≠ 0) (k : Go p e below K (T.setTop (mkF m n ls (.int (x % y) :: rest)))) : Go p e below K (T.setTop (mkF m pc ls (.int y :: .int x :: rest))) := by
  subst hn
  exact Go.of (fun t q => iremM X C.hx rfl (hb C.hby hd) rfl hy q) k
theorem Go.ldiv (C : Cx p s m meth c Z own bytes maxL ret nm) (X : Stand p l e R s m args below meth c T locs cells slots) {pc n : Nat} {ls : Array Slot} {rest : List Value} {x y : Int64} (hd : decode bytes pc = .ok (.ldiv, 1)) (hn : pc + 1 = n) (hy : y ≠ 0) (k : Go p e below K (T.setTop (mkF m n ls (.long (x / y) :: rest)))) : Go p e below K (T.setTop (mkF m pc ls (.long y :: .long x :: rest))) := by
  subst hn
  exact Go.of (fun t q => XT.ldiv X.here C.hx rfl (hb C.hby hd) rfl hy q) k
theorem Go.lrem (C : Cx p s m meth c Z own bytes maxL ret nm) (X : Stand p l e R s m args below meth c T locs cells slots) {pc n : Nat} {ls : Array Slot} {rest : List Value} {x y : Int64} (hd : decode bytes pc = .ok (.lrem, 1)) (hn : pc + 1 = n) (hy : y ≠ 0) (k : Go p e below K (T.setTop (mkF m n ls (.long (x - (x / y) * y) :: rest)))) : Go p e below K (T.setTop (mkF m pc ls (.long y :: .long x :: rest))) := by
  subst hn
  exact Go.of (fun t q => XT.lrem X.here C.hx rfl (hb C.hby hd) rfl hy q) k
theorem Go.ineg (C : Cx p s m meth c Z own bytes maxL ret nm) (X : Stand p l e R s m args below meth c T locs cells slots) {pc n : Nat} {ls : Array Slot} {rest : List Value} {x : Int32} (hd : decode bytes pc = .ok (.ineg, 1)) (hn : pc + 1 = n) (k : Go p e below K (T.setTop (mkF m n ls (.int (-x) :: rest)))) : Go p e below K (T.setTop (mkF m pc ls (.int x :: rest))) := by
  subst hn
  exact Go.of (fun t q => XS.ineg X.here C.hx rfl (hb C.hby hd) rfl q) k
theorem Go.i2l (C : Cx p s m meth c Z own bytes maxL ret nm) (X : Stand p l e R s m args below meth c T locs cells slots) {pc n : Nat} {ls : Array Slot} {rest : List Value} {x : Int32} (hd : decode bytes pc = .ok (.i2l, 1)) (hn : pc + 1 = n) (k : Go p e below K (T.setTop (mkF m n ls (.long (x.toInt64) :: rest)))) : Go p e below K (T.setTop (mkF m pc ls (.int x :: rest))) := by
  subst hn
  exact Go.of (fun t q => XT.i2l X.here C.hx rfl (hb C.hby hd) rfl q) k
theorem Go.i2b (C : Cx p s m meth c Z own bytes maxL ret nm) (X : Stand p l e R s m args below meth c T locs cells slots) {pc n : Nat} {ls : Array Slot} {rest : List Value} {x : Int32} (hd : decode bytes pc = .ok (.i2b, 1)) (hn : pc + 1 = n) (k : Go p e below K (T.setTop (mkF m n ls (.int (x.toInt8.toInt32) :: rest)))) : Go p e below K (T.setTop (mkF m pc ls (.int x :: rest))) := by
  subst hn
  exact Go.of (fun t q => XT.i2b X.here C.hx rfl (hb C.hby hd) rfl q) k
theorem Go.i2c (C : Cx p s m meth c Z own bytes maxL ret nm) (X : Stand p l e R s m args below meth c T locs cells slots) {pc n : Nat} {ls : Array Slot} {rest : List Value} {x : Int32} (hd : decode bytes pc = .ok (.i2c, 1)) (hn : pc + 1 = n) (k : Go p e below K (T.setTop (mkF m n ls (.int (x.toUInt32.toUInt16.toUInt32.toInt32) :: rest)))) : Go p e below K (T.setTop (mkF m pc ls (.int x :: rest))) := by
  subst hn
  exact Go.of (fun t q => XT.i2c X.here C.hx rfl (hb C.hby hd) rfl q) k
theorem Go.i2s (C : Cx p s m meth c Z own bytes maxL ret nm) (X : Stand p l e R s m args below meth c T locs cells slots) {pc n : Nat} {ls : Array Slot} {rest : List Value} {x : Int32} (hd : decode bytes pc = .ok (.i2s, 1)) (hn : pc + 1 = n) (k : Go p e below K (T.setTop (mkF m n ls (.int (x.toInt16.toInt32) :: rest)))) : Go p e below K (T.setTop (mkF m pc ls (.int x :: rest))) := by
  subst hn
  exact Go.of (fun t q => XT.i2s X.here C.hx rfl (hb C.hby hd) rfl q) k
theorem Go.l2i (C : Cx p s m meth c Z own bytes maxL ret nm) (X : Stand p l e R s m args below meth c T locs cells slots) {pc n : Nat} {ls : Array Slot} {rest : List Value} {x : Int64} (hd : decode bytes pc = .ok (.l2i, 1)) (hn : pc + 1 = n) (k : Go p e below K (T.setTop (mkF m n ls (.int (x.toInt32) :: rest)))) : Go p e below K (T.setTop (mkF m pc ls (.long x :: rest))) := by
  subst hn
  exact Go.of (fun t q => XT.l2i X.here C.hx rfl (hb C.hby hd) rfl q) k
theorem Go.lcmp (C : Cx p s m meth c Z own bytes maxL ret nm) (X : Stand p l e R s m args below meth c T locs cells slots) {pc n : Nat} {ls : Array Slot} {rest : List Value} {x y : Int64} (hd : decode bytes pc = .ok (.lcmp, 1)) (hn : pc + 1 = n) (k : Go p e below K (T.setTop (mkF m n ls (.int (XT.cmpL x y) :: rest)))) : Go p e below K (T.setTop (mkF m pc ls (.long y :: .long x :: rest))) := by
  subst hn
  exact Go.of (fun t q => XT.lcmp X.here C.hx rfl (hb C.hby hd) rfl q) k
theorem Go.iinc (C : Cx p s m meth c Z own bytes maxL ret nm) (X : Stand p l e R s m args below meth c T locs cells slots) {pc n : Nat} {ls : Array Slot} {rest : List Value} {k : Nat} {cst : Int} {x v : Int32} {l' : Array Slot} (hd : decode bytes pc = .ok (.iinc k cst, 3)) (hn : pc + 3 = n) (hv : Int32.ofInt cst = v) (hl : ls[k]? = some (.val (.int x))) (hl' : storeLocals ls k (.int (x + v)) = some l') (k : Go p e below K (T.setTop (mkF m n l' (rest)))) : Go p e below K (T.setTop (mkF m pc ls (rest))) := by
  subst hn
  exact Go.of (fun t q => XT.iincV X.here C.hx rfl v (hb C.hby hd) hv hl hl' q) k
theorem Go.dup (C : Cx p s m meth c Z own bytes maxL ret nm) (X : Stand p l e R s m args below meth c T locs cells slots) {pc n : Nat} {ls : Array Slot} {rest : List Value} {x : Value} (hd : decode bytes pc = .ok (.dup, 1)) (hn : pc + 1 = n) (hc : x.category = 1) (k : Go p e below K (T.setTop (mkF m n ls (x :: x :: rest)))) : Go p e below K (T.setTop (mkF m pc ls (x :: rest))) := by
  subst hn
  exact Go.of (fun t q => XS.dup X.here C.hx rfl (hb C.hby hd) rfl hc q) k
theorem Go.dupX1 (C : Cx p s m meth c Z own bytes maxL ret nm) (X : Stand p l e R s m args below meth c T locs cells slots) {pc n : Nat} {ls : Array Slot} {rest : List Value} {x y : Value} (hd : decode bytes pc = .ok (.dup_x1, 1)) (hn : pc + 1 = n) (hc : x.category = 1) (hc' : y.category = 1) (k : Go p e below K (T.setTop (mkF m n ls (x :: y :: x :: rest)))) : Go p e below K (T.setTop (mkF m pc ls (x :: y :: rest))) := by
  subst hn
  exact Go.of (fun t q => XT.dupX1 X.here C.hx rfl (hb C.hby hd) rfl hc hc' q) k
theorem Go.dup2 (C : Cx p s m meth c Z own bytes maxL ret nm) (X : Stand p l e R s m args below meth c T locs cells slots) {pc n : Nat} {ls : Array Slot} {rest : List Value} {x y : Value} (hd : decode bytes pc = .ok (.dup2, 1)) (hn : pc + 1 = n) (hc : x.category = 1) (hc' : y.category = 1) (k : Go p e below K (T.setTop (mkF m n ls (x :: y :: x :: y :: rest)))) : Go p e below K (T.setTop (mkF m pc ls (x :: y :: rest))) := by
  subst hn
  exact Go.of (fun t q => XT.dup2 X.here C.hx rfl (hb C.hby hd) rfl hc hc' q) k
theorem Go.pop (C : Cx p s m meth c Z own bytes maxL ret nm) (X : Stand p l e R s m args below meth c T locs cells slots) {pc n : Nat} {ls : Array Slot} {rest : List Value} {x : Value} (hd : decode bytes pc = .ok (.pop, 1)) (hn : pc + 1 = n) (hc : x.category = 1) (k : Go p e below K (T.setTop (mkF m n ls (rest)))) : Go p e below K (T.setTop (mkF m pc ls (x :: rest))) := by
  subst hn
  exact Go.of (fun t q => XT.pop X.here C.hx rfl (hb C.hby hd) rfl hc q) k
theorem Go.dupX2 (C : Cx p s m meth c Z own bytes maxL ret nm) (X : Stand p l e R s m args below meth c T locs cells slots) {pc n : Nat} {ls : Array Slot} {rest : List Value} {x y z : Value} (hd : decode bytes pc = .ok (.dup_x2, 1)) (hn : pc + 1 = n) (hc : x.category = 1) (hc' : y.category = 1) (hc'' : z.category = 1) (k : Go p e below K (T.setTop (mkF m n ls (x :: y :: z :: x :: rest)))) : Go p e below K (T.setTop (mkF m pc ls (x :: y :: z :: rest))) := by
  subst hn
  exact Go.of (fun t q => by jvm_step X.here [X.here.top, C.hx, (hb C.hby hd), hc, hc', hc'']; exact q) k
theorem Go.goto (C : Cx p s m meth c Z own bytes maxL ret nm) (X : Stand p l e R s m args below meth c T locs cells slots) {pc n : Nat} {ls : Array Slot} {rest : List Value} {o : Int} (hd : decode bytes pc = .ok (.goto o, 3)) (ho : 0 ≤ (pc : Int) + o) (hn : ((pc : Int) + o).toNat = n) (k : Go p e below K (T.setTop (mkF m n ls rest))) : Go p e below K (T.setTop (mkF m pc ls rest)) :=
  Go.of (fun t q => XS.goto X.here C.hx rfl rfl (hb C.hby hd) ho hn q) k
theorem Go.ldcI (C : Cx p s m meth c Z own bytes maxL ret nm) (X : Stand p l e R s m args below meth c T locs cells slots) {pc n : Nat} {ls : Array Slot} {rest : List Value} {index : Nat} {v : Int32} (w : (Cond.constant own index v).before a0 Z = true) (hd : decode bytes pc = .ok (.ldc index, 2)) (hn : pc + 2 = n) (k : Go p e below K (T.setTop (mkF m n ls (.int v :: rest)))) : Go p e below K (T.setTop (mkF m pc ls rest)) := by
  subst hn
  exact Go.of (fun t q => Jvm.Stand.ldcI X C.hx C.hown (mv C.hZ w) rfl (hb C.hby hd) q) k
theorem Go.icmp_eq (C : Cx p s m meth c Z own bytes maxL ret nm) (X : Stand p l e R s m args below meth c T locs cells slots) {pc n1 n2 : Nat} {ls : Array Slot} {rest : List Value} {x y : Int32} {o : Int} (hd : decode bytes pc = .ok (.if_icmp .eq o, 3)) (ho : 0 ≤ (pc : Int) + o) (h1 : ((pc : Int) + o).toNat = n1) (h2 : pc + 3 = n2)
    (ky : x = y → Go p e below K (T.setTop (mkF m n1 ls rest))) (kn : ¬ x = y → Go p e below K (T.setTop (mkF m n2 ls rest))) : Go p e below K (T.setTop (mkF m pc ls (.int y :: .int x :: rest))) := by
  subst h2
  by_cases q : x = y
  · exact Go.of (fun t z => XS.icmpYes X.here C.hx rfl rfl (hb C.hby hd) rfl (XT.ii_eq_t q) ho h1 z) (ky q)
  · exact Go.of (fun t z => XS.icmpNo X.here C.hx rfl (hb C.hby hd) rfl (XT.ii_eq_f q) z) (kn q)
theorem Go.if0_eq (C : Cx p s m meth c Z own bytes maxL ret nm) (X : Stand p l e R s m args below meth c T locs cells slots) {pc n1 n2 : Nat} {ls : Array Slot} {rest : List Value} {x : Int32} {o : Int} (hd : decode bytes pc = .ok (.ifCond .eq o, 3)) (ho : 0 ≤ (pc : Int) + o) (h1 : ((pc : Int) + o).toNat = n1) (h2 : pc + 3 = n2)
    (ky : x = 0 → Go p e below K (T.setTop (mkF m n1 ls rest))) (kn : ¬ x = 0 → Go p e below K (T.setTop (mkF m n2 ls rest))) : Go p e below K (T.setTop (mkF m pc ls (.int x :: rest))) := by
  subst h2
  by_cases q : x = 0
  · exact Go.of (fun t z => XS.ifYes X.here C.hx rfl rfl (hb C.hby hd) rfl (XT.i0_eq_t q) ho h1 z) (ky q)
  · exact Go.of (fun t z => XS.ifNo X.here C.hx rfl (hb C.hby hd) rfl (XT.i0_eq_f q) z) (kn q)
theorem Go.lcmp_eq (C : Cx p s m meth c Z own bytes maxL ret nm) (X : Stand p l e R s m args below meth c T locs cells slots) {pc n1 n2 : Nat} {ls : Array Slot} {rest : List Value} {x y : Int64} {o : Int} (hd : decode bytes pc = .ok (.ifCond .eq o, 3)) (ho : 0 ≤ (pc : Int) + o) (h1 : ((pc : Int) + o).toNat = n1) (h2 : pc + 3 = n2)
    (ky : x = y → Go p e below K (T.setTop (mkF m n1 ls rest))) (kn : ¬ x = y → Go p e below K (T.setTop (mkF m n2 ls rest))) : Go p e below K (T.setTop (mkF m pc ls (.int (XT.cmpL x y) :: rest))) := by
  subst h2
  by_cases q : x = y
  · exact Go.of (fun t z => XS.ifYes X.here C.hx rfl rfl (hb C.hby hd) rfl (XT.ll_eq_t q) ho h1 z) (ky q)
  · exact Go.of (fun t z => XS.ifNo X.here C.hx rfl (hb C.hby hd) rfl (XT.ll_eq_f q) z) (kn q)
theorem Go.icmp_ne (C : Cx p s m meth c Z own bytes maxL ret nm) (X : Stand p l e R s m args below meth c T locs cells slots) {pc n1 n2 : Nat} {ls : Array Slot} {rest : List Value} {x y : Int32} {o : Int} (hd : decode bytes pc = .ok (.if_icmp .ne o, 3)) (ho : 0 ≤ (pc : Int) + o) (h1 : ((pc : Int) + o).toNat = n1) (h2 : pc + 3 = n2)
    (ky : ¬ x = y → Go p e below K (T.setTop (mkF m n1 ls rest))) (kn : x = y → Go p e below K (T.setTop (mkF m n2 ls rest))) : Go p e below K (T.setTop (mkF m pc ls (.int y :: .int x :: rest))) := by
  subst h2
  by_cases q : x = y
  · exact Go.of (fun t z => XS.icmpNo X.here C.hx rfl (hb C.hby hd) rfl (XT.ii_ne_f q) z) (kn q)
  · exact Go.of (fun t z => XS.icmpYes X.here C.hx rfl rfl (hb C.hby hd) rfl (XT.ii_ne_t q) ho h1 z) (ky q)
theorem Go.if0_ne (C : Cx p s m meth c Z own bytes maxL ret nm) (X : Stand p l e R s m args below meth c T locs cells slots) {pc n1 n2 : Nat} {ls : Array Slot} {rest : List Value} {x : Int32} {o : Int} (hd : decode bytes pc = .ok (.ifCond .ne o, 3)) (ho : 0 ≤ (pc : Int) + o) (h1 : ((pc : Int) + o).toNat = n1) (h2 : pc + 3 = n2)
    (ky : ¬ x = 0 → Go p e below K (T.setTop (mkF m n1 ls rest))) (kn : x = 0 → Go p e below K (T.setTop (mkF m n2 ls rest))) : Go p e below K (T.setTop (mkF m pc ls (.int x :: rest))) := by
  subst h2
  by_cases q : x = 0
  · exact Go.of (fun t z => XS.ifNo X.here C.hx rfl (hb C.hby hd) rfl (XT.i0_ne_f q) z) (kn q)
  · exact Go.of (fun t z => XS.ifYes X.here C.hx rfl rfl (hb C.hby hd) rfl (XT.i0_ne_t q) ho h1 z) (ky q)
theorem Go.lcmp_ne (C : Cx p s m meth c Z own bytes maxL ret nm) (X : Stand p l e R s m args below meth c T locs cells slots) {pc n1 n2 : Nat} {ls : Array Slot} {rest : List Value} {x y : Int64} {o : Int} (hd : decode bytes pc = .ok (.ifCond .ne o, 3)) (ho : 0 ≤ (pc : Int) + o) (h1 : ((pc : Int) + o).toNat = n1) (h2 : pc + 3 = n2)
    (ky : ¬ x = y → Go p e below K (T.setTop (mkF m n1 ls rest))) (kn : x = y → Go p e below K (T.setTop (mkF m n2 ls rest))) : Go p e below K (T.setTop (mkF m pc ls (.int (XT.cmpL x y) :: rest))) := by
  subst h2
  by_cases q : x = y
  · exact Go.of (fun t z => XS.ifNo X.here C.hx rfl (hb C.hby hd) rfl (XT.ll_ne_f q) z) (kn q)
  · exact Go.of (fun t z => XS.ifYes X.here C.hx rfl rfl (hb C.hby hd) rfl (XT.ll_ne_t q) ho h1 z) (ky q)
theorem Go.icmp_lt (C : Cx p s m meth c Z own bytes maxL ret nm) (X : Stand p l e R s m args below meth c T locs cells slots) {pc n1 n2 : Nat} {ls : Array Slot} {rest : List Value} {x y : Int32} {o : Int} (hd : decode bytes pc = .ok (.if_icmp .lt o, 3)) (ho : 0 ≤ (pc : Int) + o) (h1 : ((pc : Int) + o).toNat = n1) (h2 : pc + 3 = n2)
    (ky : x < y → Go p e below K (T.setTop (mkF m n1 ls rest))) (kn : ¬ x < y → Go p e below K (T.setTop (mkF m n2 ls rest))) : Go p e below K (T.setTop (mkF m pc ls (.int y :: .int x :: rest))) := by
  subst h2
  by_cases q : x < y
  · exact Go.of (fun t z => XS.icmpYes X.here C.hx rfl rfl (hb C.hby hd) rfl (XT.ii_lt_t q) ho h1 z) (ky q)
  · exact Go.of (fun t z => XS.icmpNo X.here C.hx rfl (hb C.hby hd) rfl (XT.ii_lt_f q) z) (kn q)
theorem Go.if0_lt (C : Cx p s m meth c Z own bytes maxL ret nm) (X : Stand p l e R s m args below meth c T locs cells slots) {pc n1 n2 : Nat} {ls : Array Slot} {rest : List Value} {x : Int32} {o : Int} (hd : decode bytes pc = .ok (.ifCond .lt o, 3)) (ho : 0 ≤ (pc : Int) + o) (h1 : ((pc : Int) + o).toNat = n1) (h2 : pc + 3 = n2)
    (ky : x < 0 → Go p e below K (T.setTop (mkF m n1 ls rest))) (kn : ¬ x < 0 → Go p e below K (T.setTop (mkF m n2 ls rest))) : Go p e below K (T.setTop (mkF m pc ls (.int x :: rest))) := by
  subst h2
  by_cases q : x < 0
  · exact Go.of (fun t z => XS.ifYes X.here C.hx rfl rfl (hb C.hby hd) rfl (XT.i0_lt_t q) ho h1 z) (ky q)
  · exact Go.of (fun t z => XS.ifNo X.here C.hx rfl (hb C.hby hd) rfl (XT.i0_lt_f q) z) (kn q)
theorem Go.lcmp_lt (C : Cx p s m meth c Z own bytes maxL ret nm) (X : Stand p l e R s m args below meth c T locs cells slots) {pc n1 n2 : Nat} {ls : Array Slot} {rest : List Value} {x y : Int64} {o : Int} (hd : decode bytes pc = .ok (.ifCond .lt o, 3)) (ho : 0 ≤ (pc : Int) + o) (h1 : ((pc : Int) + o).toNat = n1) (h2 : pc + 3 = n2)
    (ky : x < y → Go p e below K (T.setTop (mkF m n1 ls rest))) (kn : ¬ x < y → Go p e below K (T.setTop (mkF m n2 ls rest))) : Go p e below K (T.setTop (mkF m pc ls (.int (XT.cmpL x y) :: rest))) := by
  subst h2
  by_cases q : x < y
  · exact Go.of (fun t z => XS.ifYes X.here C.hx rfl rfl (hb C.hby hd) rfl (XT.ll_lt_t q) ho h1 z) (ky q)
  · exact Go.of (fun t z => XS.ifNo X.here C.hx rfl (hb C.hby hd) rfl (XT.ll_lt_f q) z) (kn q)
theorem Go.icmp_ge (C : Cx p s m meth c Z own bytes maxL ret nm) (X : Stand p l e R s m args below meth c T locs cells slots) {pc n1 n2 : Nat} {ls : Array Slot} {rest : List Value} {x y : Int32} {o : Int} (hd : decode bytes pc = .ok (.if_icmp .ge o, 3)) (ho : 0 ≤ (pc : Int) + o) (h1 : ((pc : Int) + o).toNat = n1) (h2 : pc + 3 = n2)
    (ky : ¬ x < y → Go p e below K (T.setTop (mkF m n1 ls rest))) (kn : x < y → Go p e below K (T.setTop (mkF m n2 ls rest))) : Go p e below K (T.setTop (mkF m pc ls (.int y :: .int x :: rest))) := by
  subst h2
  by_cases q : x < y
  · exact Go.of (fun t z => XS.icmpNo X.here C.hx rfl (hb C.hby hd) rfl (XT.ii_ge_f q) z) (kn q)
  · exact Go.of (fun t z => XS.icmpYes X.here C.hx rfl rfl (hb C.hby hd) rfl (XT.ii_ge_t q) ho h1 z) (ky q)
theorem Go.if0_ge (C : Cx p s m meth c Z own bytes maxL ret nm) (X : Stand p l e R s m args below meth c T locs cells slots) {pc n1 n2 : Nat} {ls : Array Slot} {rest : List Value} {x : Int32} {o : Int} (hd : decode bytes pc = .ok (.ifCond .ge o, 3)) (ho : 0 ≤ (pc : Int) + o) (h1 : ((pc : Int) + o).toNat = n1) (h2 : pc + 3 = n2)
    (ky : ¬ x < 0 → Go p e below K (T.setTop (mkF m n1 ls rest))) (kn : x < 0 → Go p e below K (T.setTop (mkF m n2 ls rest))) : Go p e below K (T.setTop (mkF m pc ls (.int x :: rest))) := by
  subst h2
  by_cases q : x < 0
  · exact Go.of (fun t z => XS.ifNo X.here C.hx rfl (hb C.hby hd) rfl (XT.i0_ge_f q) z) (kn q)
  · exact Go.of (fun t z => XS.ifYes X.here C.hx rfl rfl (hb C.hby hd) rfl (XT.i0_ge_t q) ho h1 z) (ky q)
theorem Go.lcmp_ge (C : Cx p s m meth c Z own bytes maxL ret nm) (X : Stand p l e R s m args below meth c T locs cells slots) {pc n1 n2 : Nat} {ls : Array Slot} {rest : List Value} {x y : Int64} {o : Int} (hd : decode bytes pc = .ok (.ifCond .ge o, 3)) (ho : 0 ≤ (pc : Int) + o) (h1 : ((pc : Int) + o).toNat = n1) (h2 : pc + 3 = n2)
    (ky : ¬ x < y → Go p e below K (T.setTop (mkF m n1 ls rest))) (kn : x < y → Go p e below K (T.setTop (mkF m n2 ls rest))) : Go p e below K (T.setTop (mkF m pc ls (.int (XT.cmpL x y) :: rest))) := by
  subst h2
  by_cases q : x < y
  · exact Go.of (fun t z => XS.ifNo X.here C.hx rfl (hb C.hby hd) rfl (XT.ll_ge_f q) z) (kn q)
  · exact Go.of (fun t z => XS.ifYes X.here C.hx rfl rfl (hb C.hby hd) rfl (XT.ll_ge_t q) ho h1 z) (ky q)
theorem Go.icmp_gt (C : Cx p s m meth c Z own bytes maxL ret nm) (X : Stand p l e R s m args below meth c T locs cells slots) {pc n1 n2 : Nat} {ls : Array Slot} {rest : List Value} {x y : Int32} {o : Int} (hd : decode bytes pc = .ok (.if_icmp .gt o, 3)) (ho : 0 ≤ (pc : Int) + o) (h1 : ((pc : Int) + o).toNat = n1) (h2 : pc + 3 = n2)
    (ky : y < x → Go p e below K (T.setTop (mkF m n1 ls rest))) (kn : ¬ y < x → Go p e below K (T.setTop (mkF m n2 ls rest))) : Go p e below K (T.setTop (mkF m pc ls (.int y :: .int x :: rest))) := by
  subst h2
  by_cases q : y < x
  · exact Go.of (fun t z => XS.icmpYes X.here C.hx rfl rfl (hb C.hby hd) rfl (XT.ii_gt_t q) ho h1 z) (ky q)
  · exact Go.of (fun t z => XS.icmpNo X.here C.hx rfl (hb C.hby hd) rfl (XT.ii_gt_f q) z) (kn q)
theorem Go.if0_gt (C : Cx p s m meth c Z own bytes maxL ret nm) (X : Stand p l e R s m args below meth c T locs cells slots) {pc n1 n2 : Nat} {ls : Array Slot} {rest : List Value} {x : Int32} {o : Int} (hd : decode bytes pc = .ok (.ifCond .gt o, 3)) (ho : 0 ≤ (pc : Int) + o) (h1 : ((pc : Int) + o).toNat = n1) (h2 : pc + 3 = n2)
    (ky : 0 < x → Go p e below K (T.setTop (mkF m n1 ls rest))) (kn : ¬ 0 < x → Go p e below K (T.setTop (mkF m n2 ls rest))) : Go p e below K (T.setTop (mkF m pc ls (.int x :: rest))) := by
  subst h2
  by_cases q : 0 < x
  · exact Go.of (fun t z => XS.ifYes X.here C.hx rfl rfl (hb C.hby hd) rfl (XT.i0_gt_t q) ho h1 z) (ky q)
  · exact Go.of (fun t z => XS.ifNo X.here C.hx rfl (hb C.hby hd) rfl (XT.i0_gt_f q) z) (kn q)
theorem Go.lcmp_gt (C : Cx p s m meth c Z own bytes maxL ret nm) (X : Stand p l e R s m args below meth c T locs cells slots) {pc n1 n2 : Nat} {ls : Array Slot} {rest : List Value} {x y : Int64} {o : Int} (hd : decode bytes pc = .ok (.ifCond .gt o, 3)) (ho : 0 ≤ (pc : Int) + o) (h1 : ((pc : Int) + o).toNat = n1) (h2 : pc + 3 = n2)
    (ky : y < x → Go p e below K (T.setTop (mkF m n1 ls rest))) (kn : ¬ y < x → Go p e below K (T.setTop (mkF m n2 ls rest))) : Go p e below K (T.setTop (mkF m pc ls (.int (XT.cmpL x y) :: rest))) := by
  subst h2
  by_cases q : y < x
  · exact Go.of (fun t z => XS.ifYes X.here C.hx rfl rfl (hb C.hby hd) rfl (XT.ll_gt_t q) ho h1 z) (ky q)
  · exact Go.of (fun t z => XS.ifNo X.here C.hx rfl (hb C.hby hd) rfl (XT.ll_gt_f q) z) (kn q)
theorem Go.icmp_le (C : Cx p s m meth c Z own bytes maxL ret nm) (X : Stand p l e R s m args below meth c T locs cells slots) {pc n1 n2 : Nat} {ls : Array Slot} {rest : List Value} {x y : Int32} {o : Int} (hd : decode bytes pc = .ok (.if_icmp .le o, 3)) (ho : 0 ≤ (pc : Int) + o) (h1 : ((pc : Int) + o).toNat = n1) (h2 : pc + 3 = n2)
    (ky : ¬ y < x → Go p e below K (T.setTop (mkF m n1 ls rest))) (kn : y < x → Go p e below K (T.setTop (mkF m n2 ls rest))) : Go p e below K (T.setTop (mkF m pc ls (.int y :: .int x :: rest))) := by
  subst h2
  by_cases q : y < x
  · exact Go.of (fun t z => XS.icmpNo X.here C.hx rfl (hb C.hby hd) rfl (XT.ii_le_f q) z) (kn q)
  · exact Go.of (fun t z => XS.icmpYes X.here C.hx rfl rfl (hb C.hby hd) rfl (XT.ii_le_t q) ho h1 z) (ky q)
theorem Go.if0_le (C : Cx p s m meth c Z own bytes maxL ret nm) (X : Stand p l e R s m args below meth c T locs cells slots) {pc n1 n2 : Nat} {ls : Array Slot} {rest : List Value} {x : Int32} {o : Int} (hd : decode bytes pc = .ok (.ifCond .le o, 3)) (ho : 0 ≤ (pc : Int) + o) (h1 : ((pc : Int) + o).toNat = n1) (h2 : pc + 3 = n2)
    (ky : ¬ 0 < x → Go p e below K (T.setTop (mkF m n1 ls rest))) (kn : 0 < x → Go p e below K (T.setTop (mkF m n2 ls rest))) : Go p e below K (T.setTop (mkF m pc ls (.int x :: rest))) := by
  subst h2
  by_cases q : 0 < x
  · exact Go.of (fun t z => XS.ifNo X.here C.hx rfl (hb C.hby hd) rfl (XT.i0_le_f q) z) (kn q)
  · exact Go.of (fun t z => XS.ifYes X.here C.hx rfl rfl (hb C.hby hd) rfl (XT.i0_le_t q) ho h1 z) (ky q)
theorem Go.lcmp_le (C : Cx p s m meth c Z own bytes maxL ret nm) (X : Stand p l e R s m args below meth c T locs cells slots) {pc n1 n2 : Nat} {ls : Array Slot} {rest : List Value} {x y : Int64} {o : Int} (hd : decode bytes pc = .ok (.ifCond .le o, 3)) (ho : 0 ≤ (pc : Int) + o) (h1 : ((pc : Int) + o).toNat = n1) (h2 : pc + 3 = n2)
    (ky : ¬ y < x → Go p e below K (T.setTop (mkF m n1 ls rest))) (kn : y < x → Go p e below K (T.setTop (mkF m n2 ls rest))) : Go p e below K (T.setTop (mkF m pc ls (.int (XT.cmpL x y) :: rest))) := by
  subst h2
  by_cases q : y < x
  · exact Go.of (fun t z => XS.ifNo X.here C.hx rfl (hb C.hby hd) rfl (XT.ll_le_f q) z) (kn q)
  · exact Go.of (fun t z => XS.ifYes X.here C.hx rfl rfl (hb C.hby hd) rfl (XT.ll_le_t q) ho h1 z) (ky q)
theorem Go.ifnullN (C : Cx p s m meth c Z own bytes maxL ret nm) (X : Stand p l e R s m args below meth c T locs cells slots) {pc n : Nat} {ls : Array Slot} {rest : List Value} {o : Int} (hd : decode bytes pc = .ok (.ifnull o, 3)) (ho : 0 ≤ (pc : Int) + o) (hn : ((pc : Int) + o).toNat = n) (k : Go p e below K (T.setTop (mkF m n ls rest))) : Go p e below K (T.setTop (mkF m pc ls (.null :: rest))) :=
  Go.of (fun t q => XS.ifnullYes X.here C.hx rfl rfl (hb C.hby hd) rfl ho hn q) k
theorem Go.ifnullR (C : Cx p s m meth c Z own bytes maxL ret nm) (X : Stand p l e R s m args below meth c T locs cells slots) {pc n : Nat} {ls : Array Slot} {rest : List Value} {o : Int} {b : Addr} (hd : decode bytes pc = .ok (.ifnull o, 3)) (hn : pc + 3 = n) (k : Go p e below K (T.setTop (mkF m n ls rest))) : Go p e below K (T.setTop (mkF m pc ls (.ref b :: rest))) := by
  subst hn
  exact Go.of (fun t q => XS.ifnullNo X.here C.hx rfl (hb C.hby hd) rfl q) k
theorem Go.ifnonnullN (C : Cx p s m meth c Z own bytes maxL ret nm) (X : Stand p l e R s m args below meth c T locs cells slots) {pc n : Nat} {ls : Array Slot} {rest : List Value} {o : Int} (hd : decode bytes pc = .ok (.ifnonnull o, 3)) (hn : pc + 3 = n) (k : Go p e below K (T.setTop (mkF m n ls rest))) : Go p e below K (T.setTop (mkF m pc ls (.null :: rest))) := by
  subst hn
  exact Go.of (fun t q => XT.ifnonnullNo X.here C.hx rfl (hb C.hby hd) rfl q) k
theorem Go.ifnonnullR (C : Cx p s m meth c Z own bytes maxL ret nm) (X : Stand p l e R s m args below meth c T locs cells slots) {pc n : Nat} {ls : Array Slot} {rest : List Value} {o : Int} {b : Addr} (hd : decode bytes pc = .ok (.ifnonnull o, 3)) (ho : 0 ≤ (pc : Int) + o) (hn : ((pc : Int) + o).toNat = n) (k : Go p e below K (T.setTop (mkF m n ls rest))) : Go p e below K (T.setTop (mkF m pc ls (.ref b :: rest))) :=
  Go.of (fun t q => XT.ifnonnullYes X.here C.hx rfl rfl (hb C.hby hd) rfl ho hn q) k
theorem Go.acmp_eq (C : Cx p s m meth c Z own bytes maxL ret nm) (X : Stand p l e R s m args below meth c T locs cells slots) {pc n1 n2 : Nat} {ls : Array Slot} {rest : List Value} {x y : Value} {o : Int} (hx' : x.isRef = true) (hy' : y.isRef = true) (hd : decode bytes pc = .ok (.if_acmp .eq o, 3)) (ho : 0 ≤ (pc : Int) + o) (h1 : ((pc : Int) + o).toNat = n1) (h2 : pc + 3 = n2)
    (ky : x = y → Go p e below K (T.setTop (mkF m n1 ls rest))) (kn : ¬ x = y → Go p e below K (T.setTop (mkF m n2 ls rest))) : Go p e below K (T.setTop (mkF m pc ls (y :: x :: rest))) := by
  subst h2
  by_cases q : x = y
  · exact Go.of (fun t z => XT.acmpYes X.here C.hx rfl rfl (hb C.hby hd) rfl hx' hy' (XT.aa_eq_t q) ho h1 z) (ky q)
  · exact Go.of (fun t z => XT.acmpNo X.here C.hx rfl (hb C.hby hd) rfl hx' hy' (XT.aa_eq_f q) z) (kn q)
theorem Go.acmp_ne (C : Cx p s m meth c Z own bytes maxL ret nm) (X : Stand p l e R s m args below meth c T locs cells slots) {pc n1 n2 : Nat} {ls : Array Slot} {rest : List Value} {x y : Value} {o : Int} (hx' : x.isRef = true) (hy' : y.isRef = true) (hd : decode bytes pc = .ok (.if_acmp .ne o, 3)) (ho : 0 ≤ (pc : Int) + o) (h1 : ((pc : Int) + o).toNat = n1) (h2 : pc + 3 = n2)
    (ky : ¬ x = y → Go p e below K (T.setTop (mkF m n1 ls rest))) (kn : x = y → Go p e below K (T.setTop (mkF m n2 ls rest))) : Go p e below K (T.setTop (mkF m pc ls (y :: x :: rest))) := by
  subst h2
  by_cases q : x = y
  · exact Go.of (fun t z => XT.acmpNo X.here C.hx rfl (hb C.hby hd) rfl hx' hy' (XT.aa_ne_f q) z) (kn q)
  · exact Go.of (fun t z => XT.acmpYes X.here C.hx rfl rfl (hb C.hby hd) rfl hx' hy' (XT.aa_ne_t q) ho h1 z) (ky q)
theorem Go.iaload (C : Cx p s m meth c Z own bytes maxL ret nm) (X : Stand p l e R s m args below meth c T locs cells slots) {pc n : Nat} {ls : Array Slot} {rest : List Value} (eT : T.heap = h) {a : Addr} {cl : Cell} {j : Int32} {v : Value} (A : Arr Z h a cl .int) (hj : ¬ (j < 0 ∨ cl.slots.size ≤ j.toNatClampNeg)) (hv : cl.slots[j.toNatClampNeg]? = some v) (hd : decode bytes pc = .ok (.iaload, 1)) (hn : pc + 1 = n) (k : Go p e below K (T.setTop (mkF m n ls (v :: rest)))) : Go p e below K (T.setTop (mkF m pc ls (.int j :: .ref a :: rest))) := by
  subst hn
  have hc : T.heap[a]? = some cl := by rw [eT]; exact A.1
  have ha := State.isArrayOf_alike (T := s) C.hZ.alike A.2.1
  exact Go.of (fun t q => X.iaload C.hx hc ha A.2.2 hj hv (g := mkF m pc ls (.int j :: .ref a :: rest)) rfl rfl (hb C.hby hd) t q) k
theorem Go.caload (C : Cx p s m meth c Z own bytes maxL ret nm) (X : Stand p l e R s m args below meth c T locs cells slots) {pc n : Nat} {ls : Array Slot} {rest : List Value} (eT : T.heap = h) {a : Addr} {cl : Cell} {j : Int32} {v : Value} (A : Arr Z h a cl .char) (hj : ¬ (j < 0 ∨ cl.slots.size ≤ j.toNatClampNeg)) (hv : cl.slots[j.toNatClampNeg]? = some v) (hd : decode bytes pc = .ok (.caload, 1)) (hn : pc + 1 = n) (k : Go p e below K (T.setTop (mkF m n ls (v :: rest)))) : Go p e below K (T.setTop (mkF m pc ls (.int j :: .ref a :: rest))) := by
  subst hn
  have hc : T.heap[a]? = some cl := by rw [eT]; exact A.1
  have ha := State.isArrayOf_alike (T := s) C.hZ.alike A.2.1
  exact Go.of (fun t q => X.caload C.hx hc ha A.2.2 hj hv (g := mkF m pc ls (.int j :: .ref a :: rest)) rfl rfl (hb C.hby hd) t q) k
theorem Go.baloadB (C : Cx p s m meth c Z own bytes maxL ret nm) (X : Stand p l e R s m args below meth c T locs cells slots) {pc n : Nat} {ls : Array Slot} {rest : List Value} (eT : T.heap = h) {a : Addr} {cl : Cell} {j : Int32} {v : Value} (A : Arr Z h a cl .byte) (hj : ¬ (j < 0 ∨ cl.slots.size ≤ j.toNatClampNeg)) (hv : cl.slots[j.toNatClampNeg]? = some v) (hd : decode bytes pc = .ok (.baload, 1)) (hn : pc + 1 = n) (k : Go p e below K (T.setTop (mkF m n ls (v :: rest)))) : Go p e below K (T.setTop (mkF m pc ls (.int j :: .ref a :: rest))) := by
  subst hn
  have hc : T.heap[a]? = some cl := by rw [eT]; exact A.1
  have ha := State.isArrayOf_alike (T := s) C.hZ.alike A.2.1
  exact Go.of (fun t q => X.baloadBytes C.hx hc ha A.2.2 hj hv (g := mkF m pc ls (.int j :: .ref a :: rest)) rfl rfl (hb C.hby hd) t q) k
theorem Go.aaload (C : Cx p s m meth c Z own bytes maxL ret nm) (X : Stand p l e R s m args below meth c T locs cells slots) {pc n : Nat} {ls : Array Slot} {rest : List Value} (eT : T.heap = h) {a : Addr} {cl : Cell} {j : Int32} {v : Value} {ty : FieldType} (hty : ty.isReference = true) (A : Arr Z h a cl ty) (hj : ¬ (j < 0 ∨ cl.slots.size ≤ j.toNatClampNeg)) (hv : cl.slots[j.toNatClampNeg]? = some v) (hd : decode bytes pc = .ok (.aaload, 1)) (hn : pc + 1 = n) (k : Go p e below K (T.setTop (mkF m n ls (v :: rest)))) : Go p e below K (T.setTop (mkF m pc ls (.int j :: .ref a :: rest))) := by
  subst hn
  have hc : T.heap[a]? = some cl := by rw [eT]; exact A.1
  have ha := State.isArrayOf_alike (T := s) C.hZ.alike A.2.1
  exact Go.of (fun t q => X.aaload C.hx hc ha hty A.2.2 hj hv (g := mkF m pc ls (.int j :: .ref a :: rest)) rfl rfl (hb C.hby hd) t q) k
theorem Go.arraylength (C : Cx p s m meth c Z own bytes maxL ret nm) (X : Stand p l e R s m args below meth c T locs cells slots) {pc n : Nat} {ls : Array Slot} {rest : List Value} (eT : T.heap = h) {a : Addr} {cl : Cell} {ty : FieldType} {z : Int32} (A : Arr Z h a cl ty) (hz : cl.slots.size.toInt32 = z) (hd : decode bytes pc = .ok (.arraylength, 1)) (hn : pc + 1 = n) (k : Go p e below K (T.setTop (mkF m n ls (.int z :: rest)))) : Go p e below K (T.setTop (mkF m pc ls (.ref a :: rest))) := by
  subst hn hz
  have hc : T.heap[a]? = some cl := by rw [eT]; exact A.1
  have ha := State.isArrayOf_alike (T := s) C.hZ.alike A.2.1
  exact Go.of (fun t q => X.arraylength C.hx hc ha (g := mkF m pc ls (.ref a :: rest)) rfl rfl (hb C.hby hd) t q) k
theorem Go.iastore (C : Cx p s m meth c Z own bytes maxL ret nm) (X : Stand p l e R s m args below meth c T locs cells slots) {pc n : Nat} {ls : Array Slot} {rest : List Value} (eT : T.heap = h) {a : Addr} {cl : Cell} {j : Int32} {x : Int32} (A : Arr Z h a cl .int) (hj : ¬ (j < 0 ∨ cl.slots.size ≤ j.toNatClampNeg)) (hd : decode bytes pc = .ok (.iastore, 1)) (hn : pc + 1 = n) (k : ∀ T' h', Stand p l e R s m args below meth c T' (locs ++ [⟨a, j.toNatClampNeg⟩]) cells slots → T'.heap = h' → Wr h h' a j.toNatClampNeg (.int x) → Go p e below K (T'.setTop (mkF m n ls rest))) : Go p e below K (T.setTop (mkF m pc ls (.int x :: .int j :: .ref a :: rest))) := by
  subst hn
  obtain ⟨T', h', X', e', W, st⟩ := stI X C.hx C.hZ eT A hj (g := mkF m pc ls (.int x :: .int j :: .ref a :: rest)) rfl rfl (hb C.hby hd)
  exact Go.of st (k T' h' X' e' W)
theorem Go.castore (C : Cx p s m meth c Z own bytes maxL ret nm) (X : Stand p l e R s m args below meth c T locs cells slots) {pc n : Nat} {ls : Array Slot} {rest : List Value} (eT : T.heap = h) {a : Addr} {cl : Cell} {j : Int32} {x : Int32} (A : Arr Z h a cl .char) (hj : ¬ (j < 0 ∨ cl.slots.size ≤ j.toNatClampNeg)) (hd : decode bytes pc = .ok (.castore, 1)) (hn : pc + 1 = n) (k : ∀ T' h', Stand p l e R s m args below meth c T' (locs ++ [⟨a, j.toNatClampNeg⟩]) cells slots → T'.heap = h' → Wr h h' a j.toNatClampNeg (.int (nar .char x)) → Go p e below K (T'.setTop (mkF m n ls rest))) : Go p e below K (T.setTop (mkF m pc ls (.int x :: .int j :: .ref a :: rest))) := by
  subst hn
  obtain ⟨T', h', X', e', W, st⟩ := stC X C.hx C.hZ eT A hj (g := mkF m pc ls (.int x :: .int j :: .ref a :: rest)) rfl rfl (hb C.hby hd)
  exact Go.of st (k T' h' X' e' W)
theorem Go.bastoreB (C : Cx p s m meth c Z own bytes maxL ret nm) (X : Stand p l e R s m args below meth c T locs cells slots) {pc n : Nat} {ls : Array Slot} {rest : List Value} (eT : T.heap = h) {a : Addr} {cl : Cell} {j : Int32} {x : Int32} (A : Arr Z h a cl .byte) (hj : ¬ (j < 0 ∨ cl.slots.size ≤ j.toNatClampNeg)) (hd : decode bytes pc = .ok (.bastore, 1)) (hn : pc + 1 = n) (k : ∀ T' h', Stand p l e R s m args below meth c T' (locs ++ [⟨a, j.toNatClampNeg⟩]) cells slots → T'.heap = h' → Wr h h' a j.toNatClampNeg (.int (nar .byte x)) → Go p e below K (T'.setTop (mkF m n ls rest))) : Go p e below K (T.setTop (mkF m pc ls (.int x :: .int j :: .ref a :: rest))) := by
  subst hn
  obtain ⟨T', h', X', e', W, st⟩ := stB X C.hx C.hZ eT A hj (g := mkF m pc ls (.int x :: .int j :: .ref a :: rest)) rfl rfl (hb C.hby hd)
  exact Go.of st (k T' h' X' e' W)
theorem Go.aastore (C : Cx p s m meth c Z own bytes maxL ret nm) (X : Stand p l e R s m args below meth c T locs cells slots) {pc n : Nat} {ls : Array Slot} {rest : List Value} (eT : T.heap = h) {a : Addr} {cl : Cell} {j : Int32} {v : Value} {ty : FieldType} (A : Arr Z h a cl ty) (hj : ¬ (j < 0 ∨ cl.slots.size ≤ j.toNatClampNeg)) (hty : ty.isReference = true) (F : Sto Z h a v) (hd : decode bytes pc = .ok (.aastore, 1)) (hn : pc + 1 = n) (k : ∀ T' h', Stand p l e R s m args below meth c T' (locs ++ [⟨a, j.toNatClampNeg⟩]) cells slots → T'.heap = h' → Wr h h' a j.toNatClampNeg v → Go p e below K (T'.setTop (mkF m n ls rest))) : Go p e below K (T.setTop (mkF m pc ls (v :: .int j :: .ref a :: rest))) := by
  subst hn
  obtain ⟨T', h', X', e', W, st⟩ := stR X C.hx C.hZ eT A hj hty F (g := mkF m pc ls (v :: .int j :: .ref a :: rest)) rfl rfl (hb C.hby hd)
  exact Go.of st (k T' h' X' e' W)
theorem Go.getF (C : Cx p s m meth c Z own bytes maxL ret nm) (X : Stand p l e R s m args below meth c T locs cells slots) {pc n : Nat} {ls : Array Slot} {rest : List Value} (eT : T.heap = h) {R0 O n0 d : String} {index : Nat} {a : Addr} {v : Value} (w : (Cond.fieldLink own index R0 n0 d).before a0 Z = true) (via : Via Z R0 O n0 d) (F : Fld Z h a O n0 d v) (hd : decode bytes pc = .ok (.getfield index, 3)) (hn : pc + 3 = n) (k : ∀ T', Stand p l e R s m args below meth c T' locs cells slots → T'.heap = h → Go p e below K (T'.setTop (mkF m n ls (v :: rest)))) : Go p e below K (T.setTop (mkF m pc ls (.ref a :: rest))) := by
  subst hn
  obtain ⟨T', X', e', st⟩ := Jvm.RoadKit.getF X C.hx C.hZ C.hown (host := "") (Or.inl w) via eT F (g := mkF m pc ls (.ref a :: rest)) rfl rfl (hb C.hby hd)
  exact Go.of st (k T' X' e')
theorem Go.putF (C : Cx p s m meth c Z own bytes maxL ret nm) (X : Stand p l e R s m args below meth c T locs cells slots) {pc n : Nat} {ls : Array Slot} {rest : List Value} (eT : T.heap = h) {R0 O n0 d C0 : String} {index kk : Nat} {ty : FieldType} {a : Addr} {v v' old : Value} (w : (Cond.fieldLink own index R0 n0 d).before a0 Z = true) (via : Via Z R0 O n0 d) (F : Fld Z h a O n0 d old) (E : Exa Z h a C0) (L : (Cond.lays C0 O n0 d).before a0 Z = true ∨ ((Cond.laysFinal C0 O n0 d).before a0 Z = true ∧ own = O ∧ nm = "<init>")) (wi : (Cond.instantiable C0 kk).before a0 Z = true) (hty : parseFieldDescriptor d = some ty) (hnv : narrow ty v = v') (hf : fits ty v' = true) (hd : decode bytes pc = .ok (.putfield index, 3)) (hn : pc + 3 = n)
    (k : ∀ T' h', Stand p l e R s m args below meth c T' (locs ++ [⟨a, slotOf Z O n0 d⟩]) cells slots → T'.heap = h' → Wr h h' a (slotOf Z O n0 d) v' → Go p e below K (T'.setTop (mkF m n ls rest))) : Go p e below K (T.setTop (mkF m pc ls (v :: .ref a :: rest))) := by
  subst hn
  obtain ⟨T', h', X', e', W, st⟩ := Jvm.RoadKit.putFN X C.hx C.hZ C.hown w via eT F E (L.imp id fun z => ⟨z.1, z.2.1, C.hnm.trans z.2.2⟩) wi hty hnv hf (g := mkF m pc ls (v :: .ref a :: rest)) rfl rfl (hb C.hby hd)
  exact Go.of st (k T' h' X' e' W)
theorem Go.getS (C : Cx p s m meth c Z own bytes maxL ret nm) (X : Stand p l e R s m args below meth c T locs cells slots) {pc n : Nat} {ls : Array Slot} {rest : List Value} (eT : T.heap = h) {R0 O n0 d : String} {index : Nat} {v : Value} (w : (Cond.fieldLink own index R0 n0 d).before a0 Z = true) (via : Via Z R0 O n0 d) (F : Sta Z h O n0 d v) (hd : decode bytes pc = .ok (.getstatic index, 3)) (hn : pc + 3 = n) (k : ∀ T', Stand p l e R s m args below meth c T' locs cells slots → T'.heap = h → Go p e below K (T'.setTop (mkF m n ls (v :: rest)))) : Go p e below K (T.setTop (mkF m pc ls rest)) := by
  subst hn
  obtain ⟨T', X', e', st⟩ := Jvm.RoadKit.getS X C.hx C.hZ C.hown (host := "") w via eT F (g := mkF m pc ls rest) rfl (hb C.hby hd)
  exact Go.of st (k T' X' e')
theorem Go.newO (C : Cx p s m meth c Z own bytes maxL ret nm) (X : Stand p l e R s m args below meth c T locs cells slots) {pc n : Nat} {ls : Array Slot} {rest : List Value} (eT : T.heap = h) {C0 : String} {index n0 : Nat} (w : (Cond.classLink own index C0).before a0 Z = true) (wi : (Cond.instantiable C0 n0).before a0 Z = true) (wz : (Cond.initialized C0).before a0 Z = true) (hd : decode bytes pc = .ok (.new index, 3)) (hn : pc + 3 = n) (hc : cells + 1 ≤ R.cells) (hl : slots + n0 ≤ R.slots)
    (k : ∀ T' h' a, a = h.size → Stand p l e R s m args below meth c T' locs (cells + 1) (slots + n0) → T'.heap = h' → Ext h h' → Exa Z h' a C0 → (∀ {O nm d : String} {ty : FieldType}, Laid Z a0 C0 O nm d → parseFieldDescriptor d = some ty → Fld Z h' a O nm d (defaultValue ty)) → Go p e below K (T'.setTop (mkF m n ls (.ref a :: rest)))) : Go p e below K (T.setTop (mkF m pc ls rest)) := by
  subst hn
  obtain ⟨T', h', X', e', E', A', D', -, st⟩ := Jvm.RoadKit.newO X C.hx C.hZ C.hown w wi wz eT (g := mkF m pc ls rest) rfl (hb C.hby hd) hc hl
  exact Go.of st (k T' h' _ rfl X' e' E' A' D')
theorem Go.newP (C : Cx p s m meth c Z own bytes maxL ret nm) (X : Stand p l e R s m args below meth c T locs cells slots) {pc n : Nat} {ls : Array Slot} {rest : List Value} (eT : T.heap = h) {aty : ArrayType} (w : (Cond.arrayClass (newarray.typeOf aty)).before a0 Z = true) {z : Int32} (hd : decode bytes pc = .ok (.newarray aty, 2)) (hn : pc + 2 = n) (hz : ¬ z < 0) (cap : Nat) (hcap : z.toNatClampNeg ≤ cap) (hb8 : cap * 8 ≤ 536870912) (hc : cells + 1 ≤ R.cells) (hl : slots + cap ≤ R.slots)
    (k : ∀ T' h' a cA, a = h.size → Stand p l e R s m args below meth c T' locs (cells + 1) (slots + cap) → T'.heap = h' → Ext h h' → Arr Z h' a (newA cA (newarray.typeOf aty) z) (newarray.typeOf aty) → Go p e below K (T'.setTop (mkF m n ls (.ref a :: rest)))) : Go p e below K (T.setTop (mkF m pc ls (.int z :: rest))) := by
  subst hn
  obtain ⟨T', h', cA, X', e', E', A', st⟩ := Jvm.RoadKit.newP X C.hx C.hZ w eT (g := mkF m pc ls (.int z :: rest)) rfl (hb C.hby hd) rfl hz hcap hb8 hc hl
  exact Go.of st (k T' h' _ cA rfl X' e' E' A')
theorem Go.newR (C : Cx p s m meth c Z own bytes maxL ret nm) (X : Stand p l e R s m args below meth c T locs cells slots) {pc n : Nat} {ls : Array Slot} {rest : List Value} (eT : T.heap = h) {C0 : String} {index : Nat} (w1 : (Cond.classLink own index C0).before a0 Z = true) (w2 : (Cond.arrayOver (.object C0)).before a0 Z = true) {z : Int32} (hd : decode bytes pc = .ok (.anewarray index, 3)) (hn : pc + 3 = n) (hz : ¬ z < 0) (cap : Nat) (hcap : z.toNatClampNeg ≤ cap) (hb8 : cap * 8 ≤ 536870912) (hc : cells + 1 ≤ R.cells) (hl : slots + cap ≤ R.slots)
    (k : ∀ T' h' a cA, a = h.size → Stand p l e R s m args below meth c T' locs (cells + 1) (slots + cap) → T'.heap = h' → Ext h h' → Arr Z h' a (newA cA (.object C0) z) (.object C0) → Ovr Z cA C0 → Go p e below K (T'.setTop (mkF m n ls (.ref a :: rest)))) : Go p e below K (T.setTop (mkF m pc ls (.int z :: rest))) := by
  subst hn
  obtain ⟨T', h', cA, X', e', E', A', O', st⟩ := Jvm.RoadKit.newR X C.hx C.hZ C.hown w1 w2 eT (g := mkF m pc ls (.int z :: rest)) rfl (hb C.hby hd) rfl hz hcap hb8 hc hl
  exact Go.of st (k T' h' _ cA rfl X' e' E' A' O')
theorem Go.initO (C : Cx p s m meth c Z own bytes maxL ret nm) (X : Stand p l e R s m args below meth c T locs cells slots) {pc n : Nat} {ls : Array Slot} {rest : List Value} (eT : T.heap = h) {index : Nat} {a : Addr} (w1 : (Cond.methodLink own index Lib.objectInit).before a0 Z = true) (w2 : (Cond.instanceMethod Lib.objectInit).before a0 Z = true) (w3 : (Cond.code Lib.objectInit ⟨#[0xb1]⟩ 1 none).before a0 Z = true) (hd : decode bytes pc = .ok (.invokespecial index, 3)) (hn : pc + 3 = n) (hsz : ls.size = maxL) (hf : 1 ≤ R.frames) {W : Nat} (hW : (rest.map fun v => v.category).sum = W) (hl : W + 12 ≤ R.locals)
    (k : ∀ T', Stand p l e R s m args below meth c T' locs cells slots → T'.heap = h → Go p e below K (T'.setTop (mkF m n ls rest))) : Go p e below K (T.setTop (mkF m pc ls (.ref a :: rest))) := by
  subst hn
  obtain ⟨T', X', e', st⟩ := Jvm.RoadKit.initO X C.hx C.hZ C.hown w1 w2 w3 eT (g := mkF m pc ls (.ref a :: rest)) rfl (hsz.trans C.hml.symm) rfl (hb C.hby hd) hf (W := W) (by show 2 * 0 + _ ≤ _; omega) hl
  exact Go.of st (k T' X' e')
theorem Go.castY (C : Cx p s m meth c Z own bytes maxL ret nm) (X : Stand p l e R s m args below meth c T locs cells slots) {pc n : Nat} {ls : Array Slot} {rest : List Value} (eT : T.heap = h) {K0 : String} {index : Nat} {a : Addr} (w : (Cond.classLink own index K0).before a0 Z = true) (F : Ins Z h a K0 true) (hd : decode bytes pc = .ok (.checkcast index, 3)) (hn : pc + 3 = n) (k : ∀ T', Stand p l e R s m args below meth c T' locs cells slots → T'.heap = h → Go p e below K (T'.setTop (mkF m n ls (.ref a :: rest)))) : Go p e below K (T.setTop (mkF m pc ls (.ref a :: rest))) := by
  subst hn
  obtain ⟨T', X', e', st⟩ := Jvm.RoadKit.castY X C.hx C.hZ C.hown w eT F (g := mkF m pc ls (.ref a :: rest)) rfl rfl (hb C.hby hd)
  exact Go.of st (k T' X' e')
theorem Go.instY (C : Cx p s m meth c Z own bytes maxL ret nm) (X : Stand p l e R s m args below meth c T locs cells slots) {pc n : Nat} {ls : Array Slot} {rest : List Value} (eT : T.heap = h) {K0 : String} {index : Nat} {a : Addr} (w : (Cond.classLink own index K0).before a0 Z = true) (F : Ins Z h a K0 true) (hd : decode bytes pc = .ok (.instanceof index, 3)) (hn : pc + 3 = n) (k : ∀ T', Stand p l e R s m args below meth c T' locs cells slots → T'.heap = h → Go p e below K (T'.setTop (mkF m n ls (.int 1 :: rest)))) : Go p e below K (T.setTop (mkF m pc ls (.ref a :: rest))) := by
  subst hn
  obtain ⟨T', X', e', st⟩ := Jvm.RoadKit.instY X C.hx C.hZ C.hown w eT F (g := mkF m pc ls (.ref a :: rest)) rfl rfl (hb C.hby hd)
  exact Go.of st (k T' X' e')
theorem Go.newPE (C : Cx p s m meth c Z own bytes maxL ret nm) (X : Stand p l e R s m args below meth c T locs cells slots) {pc n : Nat} {ls : Array Slot} {rest : List Value} (eT : T.heap = h) {aty : ArrayType} (w : (Cond.arrayClass (newarray.typeOf aty)).before a0 Z = true) {z : Int32} (hd : decode bytes pc = .ok (.newarray aty, 2)) (hn : pc + 2 = n) (hz : ¬ z < 0) (cap : Nat) (hcap : z.toNatClampNeg ≤ cap) (hb8 : cap * 8 ≤ 536870912) (hc : cells + 1 ≤ R.cells) (hl : slots + cap ≤ R.slots) {ad : String} (had : "[" ++ (newarray.typeOf aty).toString = ad)
    (k : ∀ T' h' a cA, a = h.size → Stand p l e R s m args below meth c T' locs (cells + 1) (slots + cap) → T'.heap = h' → Ext h h' → Arr Z h' a (newA cA (newarray.typeOf aty) z) (newarray.typeOf aty) → Exa Z h' a ad → Go p e below K (T'.setTop (mkF m n ls (.ref a :: rest)))) : Go p e below K (T.setTop (mkF m pc ls (.int z :: rest))) := by
  subst hn
  obtain ⟨T', h', cA, X', e', E', A', x', st⟩ := Jvm.RoadKit.newPE X C.hx C.hZ w eT (g := mkF m pc ls (.int z :: rest)) rfl (hb C.hby hd) rfl hz hcap hb8 hc hl had
  exact Go.of st (k T' h' _ cA rfl X' e' E' A' x')
theorem Go.cloneA (C : Cx p s m meth c Z own bytes maxL ret nm) (X : Stand p l e R s m args below meth c T locs cells slots) {pc n : Nat} {ls : Array Slot} {rest : List Value} (eT : T.heap = h) {index : Nat} {a : Addr} {ad : String} {cl : Cell} {ty : FieldType} (w1 : (Cond.methodLink own index ⟨ad, "clone", "()Ljava/lang/Object;"⟩).before a0 Z = true) (w2 : (Cond.sameMethod ad "java/lang/Object" "clone" "()Ljava/lang/Object;").before a0 Z = true) (w3 : (Cond.native ⟨"java/lang/Object", "clone", "()Ljava/lang/Object;"⟩).before a0 Z = true) (w4 : (Cond.instanceMethod ⟨"java/lang/Object", "clone", "()Ljava/lang/Object;"⟩).before a0 Z = true) (w5 : (Cond.selects ad ⟨ad, "clone", "()Ljava/lang/Object;"⟩ ⟨"java/lang/Object", "clone", "()Ljava/lang/Object;"⟩).before a0 Z = true) (w6 : (Cond.castable ad "java/lang/Cloneable").before a0 Z = true)
    (A : Arr Z h a cl ty) (E : Exa Z h a ad) (F : FitC Z cl) (hd : decode bytes pc = .ok (.invokevirtual index, 3)) (hn : pc + 3 = n) (hsz : ls.size = maxL) (hf : 1 ≤ R.frames) {W : Nat} (hW : (rest.map fun v => v.category).sum = W) (hl : W + 14 ≤ R.locals) (cap : Nat) (hcap : cl.slots.size ≤ cap) (hc : cells + 1 ≤ R.cells) (hsl : slots + cap ≤ R.slots)
    (k : ∀ T' h' b, b = h.size → Stand p l e R s m args below meth c T' locs (cells + 1) (slots + cap) → T'.heap = h' → Ext h h' → Arr Z h' b (cloneOf cl) ty → Exa Z h' b ad → Go p e below K (T'.setTop (mkF m n ls (.ref b :: rest)))) : Go p e below K (T.setTop (mkF m pc ls (.ref a :: rest))) := by
  subst hn
  obtain ⟨T', h', X', e', E', A', x', st⟩ := Jvm.RoadKit.cloneA X C.hx C.hZ C.hown w1 w2 w3 w4 w5 w6 eT A E F (g := mkF m pc ls (.ref a :: rest)) rfl (hsz.trans C.hml.symm) rfl (hb C.hby hd) hf (W := W) (by show 2 * 0 + _ ≤ _; omega) hl hcap hc hsl
  exact Go.of st (k T' h' _ rfl X' e' E' A' x')
theorem Go.stat (C : Cx p s m meth c Z own bytes maxL ret nm) (X : Stand p l e R s m args below meth c T locs cells slots) {pc n : Nat} {ls : Array Slot} {rest : List Value} (eT : T.heap = h) {index yL W : Nat} {ybytes : ByteArray} {yret : Option FieldType} {rm : Room} {Q : Option Value → Heap → List Loc → Prop} {argsL : List Value} {st : List Value} {y : MethodName} (hC : Ctr l Z y ybytes yL yret rm argsL.toArray h Q) (wl : (Cond.methodLink own index y).before a0 Z = true) (ws : (Cond.static y).before a0 Z = true) (wi : (Cond.initialized y.cls).before a0 Z = true) (wc : (Cond.code y ybytes yL yret).before a0 Z = true) (hy : y.cls ≠ "java/lang/invoke/MethodHandle" ∧ y.cls ≠ "java/lang/invoke/VarHandle")
    (hlen : ∀ sig, parseMethodDescriptor y.desc = some sig → argsL.length = sig.parameters.length) (hst : st = argsL.reverse ++ rest) (hd : decode bytes pc = .ok (.invokestatic index, 3)) (hn : pc + 3 = n) (hsz : ls.size = maxL) (hf : rm.frames + 1 ≤ R.frames) (hW : (rest.map fun v => v.category).sum = W) (hl : W + (yL + 11) + rm.locals ≤ R.locals) (hcl : cells + rm.cells ≤ R.cells) (hsl : slots + rm.slots ≤ R.slots) 
    (k : ∀ T' h' v L, Stand p l e R s m args below meth c T' (locs ++ L) (cells + rm.cells) (slots + rm.slots) → T'.heap = h' → Q v h' L → Go p e below K (T'.setTop (mkF m n ls (v.toList ++ rest)))) : Go p e below K (T.setTop (mkF m pc ls st)) := by
  subst hn hst
  obtain ⟨v, _, ⟨T', L', k', n'⟩, -, X', ⟨L1, hQ, l1, y1, z1⟩, stp⟩ := Jvm.LawKit.callS X C.hx (y := y) C.hown (mvT C.hZ wl) (mvT C.hZ ws) (mvT C.hZ wi) (mvT C.hZ wc) hy (backOf (W := W) (hC []) C.hZ wc wi hf hl) (g := mkF m pc ls (argsL.reverse ++ rest)) rfl (hsz.trans C.hml.symm) (argsL := argsL) (rest := rest) hlen rfl (by show 2 * 0 + _ ≤ _; omega) (hb C.hby hd) (fun _ _ => ⟨rfl, eT, hcl, hsl⟩)
  dsimp only [Pt.U, Pt.locs, Pt.cells, Pt.slots] at X' l1 y1 z1 stp hQ
  subst l1 y1 z1
  exact Go.of stp (k T' T'.heap v L1 X' rfl hQ)
theorem Go.spec (C : Cx p s m meth c Z own bytes maxL ret nm) (X : Stand p l e R s m args below meth c T locs cells slots) {pc n : Nat} {ls : Array Slot} {rest : List Value} (eT : T.heap = h) {index yL W : Nat} {ybytes : ByteArray} {rm : Room} {Q : Option Value → Heap → List Loc → Prop} {argsL : List Value} {st : List Value} {y : MethodName} {a : Addr} (hC : Ctr l Z y ybytes yL none rm (.ref a :: argsL).toArray h Q) (hy1 : y.name = "<init>") (wl : (Cond.methodLink own index y).before a0 Z = true) (wm : (Cond.instanceMethod y).before a0 Z = true) (wi : (Cond.initialized y.cls).before a0 Z = true) (wc : (Cond.code y ybytes yL none).before a0 Z = true) (hy : y.cls ≠ "java/lang/invoke/MethodHandle" ∧ y.cls ≠ "java/lang/invoke/VarHandle")
    (hlen : ∀ sig, parseMethodDescriptor y.desc = some sig → argsL.length = sig.parameters.length) (hst : st = argsL.reverse ++ .ref a :: rest) (hd : decode bytes pc = .ok (.invokespecial index, 3)) (hn : pc + 3 = n) (hsz : ls.size = maxL) (hf : rm.frames + 1 ≤ R.frames) (hW : (rest.map fun v => v.category).sum = W) (hl : W + (yL + 11) + rm.locals ≤ R.locals) (hcl : cells + rm.cells ≤ R.cells) (hsl : slots + rm.slots ≤ R.slots) 
    (k : ∀ T' h' v L, Stand p l e R s m args below meth c T' (locs ++ L) (cells + rm.cells) (slots + rm.slots) → T'.heap = h' → Q v h' L → Go p e below K (T'.setTop (mkF m n ls (v.toList ++ rest)))) : Go p e below K (T.setTop (mkF m pc ls st)) := by
  subst hn hst
  obtain ⟨v, _, ⟨T', L', k', n'⟩, -, X', ⟨L1, hQ, l1, y1, z1⟩, stp⟩ := X.specialBack C.hx (y := y) hy1 C.hown (mvT C.hZ wl) (mvT C.hZ wm) (mvT C.hZ wc) hy (backOf (W := W) (hC []) C.hZ wc wi hf hl) (g := mkF m pc ls (argsL.reverse ++ .ref a :: rest)) rfl (hsz.trans C.hml.symm) (Steps.refl _) (a := a) (argsL := argsL) (rest := rest) hlen rfl (by show 2 * 0 + _ ≤ _; omega) (hb C.hby hd) (fun _ _ => ⟨rfl, eT, hcl, hsl⟩)
  dsimp only [Pt.U, Pt.locs, Pt.cells, Pt.slots] at X' l1 y1 z1 stp hQ
  subst l1 y1 z1
  exact Go.of (fun t q => stp.trans q) (k T' T'.heap v L1 X' rfl hQ)
theorem Go.virt (C : Cx p s m meth c Z own bytes maxL ret nm) (X : Stand p l e R s m args below meth c T locs cells slots) {pc n : Nat} {ls : Array Slot} {rest : List Value} (eT : T.heap = h) {index yL W : Nat} {ybytes : ByteArray} {yret : Option FieldType} {rm : Room} {Q : Option Value → Heap → List Loc → Prop} {argsL : List Value} {st : List Value} {y z : MethodName} {a : Addr} {C0 : String} (hC : Ctr l Z z ybytes yL yret rm (.ref a :: argsL).toArray h Q) (wl : (Cond.methodLink own index y).before a0 Z = true) (wd : (Cond.declares y).before a0 Z = true) (nf : NotFace s y) (wsel : (Cond.selects C0 y z).before a0 Z = true) (wm : (Cond.instanceMethod z).before a0 Z = true) (wi : (Cond.initialized z.cls).before a0 Z = true) (wc : (Cond.code z ybytes yL yret).before a0 Z = true) (hy : y.cls ≠ "java/lang/invoke/MethodHandle" ∧ y.cls ≠ "java/lang/invoke/VarHandle") (E : Exa Z h a C0)
    (hlen : ∀ sig, parseMethodDescriptor y.desc = some sig → argsL.length = sig.parameters.length) (hst : st = argsL.reverse ++ .ref a :: rest) (hd : decode bytes pc = .ok (.invokevirtual index, 3)) (hn : pc + 3 = n) (hsz : ls.size = maxL) (hf : rm.frames + 1 ≤ R.frames) (hW : (rest.map fun v => v.category).sum = W) (hl : W + (yL + 11) + rm.locals ≤ R.locals) (hcl : cells + rm.cells ≤ R.cells) (hsl : slots + rm.slots ≤ R.slots) 
    (k : ∀ T' h' v L, Stand p l e R s m args below meth c T' (locs ++ L) (cells + rm.cells) (slots + rm.slots) → T'.heap = h' → Q v h' L → Go p e below K (T'.setTop (mkF m n ls (v.toList ++ rest)))) : Go p e below K (T.setTop (mkF m pc ls st)) := by
  subst hn hst
  obtain ⟨cq, kq, q1, q2, q3⟩ := isOf C.hZ eT E
  obtain ⟨v, _, ⟨T', L', k', n'⟩, -, X', ⟨L1, hQ, l1, y1, z1⟩, stp⟩ := X.virtualBack C.hx (y := y) (z := z) C.hown (mvT C.hZ wl) (mvT C.hZ wd) nf (mvT C.hZ wsel) (mvT C.hZ wm) hy (backOf (W := W) (hC []) C.hZ wc wi hf hl) q1 q3 (g := mkF m pc ls (argsL.reverse ++ .ref a :: rest)) rfl (hsz.trans C.hml.symm) (Steps.refl _) (argsL := argsL) (rest := rest) hlen rfl (by show 2 * 0 + _ ≤ _; omega) (hb C.hby hd) (fun _ _ => ⟨rfl, eT, hcl, hsl⟩)
  dsimp only [Pt.U, Pt.locs, Pt.cells, Pt.slots] at X' l1 y1 z1 stp hQ
  subst l1 y1 z1
  exact Go.of (fun t q => stp.trans q) (k T' T'.heap v L1 X' rfl hQ)
theorem Go.priv (C : Cx p s m meth c Z own bytes maxL ret nm) (X : Stand p l e R s m args below meth c T locs cells slots) {pc n : Nat} {ls : Array Slot} {rest : List Value} (eT : T.heap = h) {index yL W : Nat} {ybytes : ByteArray} {yret : Option FieldType} {rm : Room} {Q : Option Value → Heap → List Loc → Prop} {argsL : List Value} {st : List Value} {y : MethodName} {a : Addr} {C0 : String} (hC : Ctr l Z y ybytes yL yret rm (.ref a :: argsL).toArray h Q) (wl : (Cond.methodLink own index y).before a0 Z = true) (wm : (Cond.instanceMethod y).before a0 Z = true) {kk : Nat} (wk : (Cond.instantiable y.cls kk).before a0 Z = true) (wp : (Cond.privateMethod y).before a0 Z = true) (wi : (Cond.initialized y.cls).before a0 Z = true) (wc : (Cond.code y ybytes yL yret).before a0 Z = true) (hy : y.cls ≠ "java/lang/invoke/MethodHandle" ∧ y.cls ≠ "java/lang/invoke/VarHandle") (E : Exa Z h a C0)
    (hlen : ∀ sig, parseMethodDescriptor y.desc = some sig → argsL.length = sig.parameters.length) (hst : st = argsL.reverse ++ .ref a :: rest) (hd : decode bytes pc = .ok (.invokevirtual index, 3)) (hn : pc + 3 = n) (hsz : ls.size = maxL) (hf : rm.frames + 1 ≤ R.frames) (hW : (rest.map fun v => v.category).sum = W) (hl : W + (yL + 11) + rm.locals ≤ R.locals) (hcl : cells + rm.cells ≤ R.cells) (hsl : slots + rm.slots ≤ R.slots) 
    (k : ∀ T' h' v L, Stand p l e R s m args below meth c T' (locs ++ L) (cells + rm.cells) (slots + rm.slots) → T'.heap = h' → Q v h' L → Go p e below K (T'.setTop (mkF m n ls (v.toList ++ rest)))) : Go p e below K (T.setTop (mkF m pc ls st)) := by
  subst hn hst
  obtain ⟨cq, q, q'⟩ := E.cell
  obtain ⟨c0, k0, i1, i2, -, i4, -⟩ := Cond.instantiable_spec (mvT C.hZ wk (args := args) : (Cond.instantiable y.cls kk).before args s = true)
  have hni : k0.isInterface = false := by cases hq : k0.isInterface <;> simp [hq] at i4 ⊢
  have hsel := selects_self_of_private (args := args) i1 i2 hni (Cond.privateMethod_at (mvP C.hZ wp (args := #[]))) (mvT C.hZ wm) hy
  obtain ⟨v, _, ⟨T', L', k', n'⟩, -, X', ⟨L1, hQ, l1, y1, z1⟩, stp⟩ := X.privateBack C.hx (y := y) C.hown (mvT C.hZ wl) (mvT C.hZ wm) hsel (Cond.privateMethod_at (mvP C.hZ wp (args := #[]))) (mvT C.hZ wc) hy (backOf (W := W) (hC []) C.hZ wc wi hf hl) (g := mkF m pc ls (argsL.reverse ++ .ref a :: rest)) rfl (hsz.trans C.hml.symm) (Steps.refl _) (a := a) (by rw [eT]; exact q) q' (argsL := argsL) (rest := rest) hlen rfl (by show 2 * 0 + _ ≤ _; omega) (hb C.hby hd) (fun _ _ => ⟨rfl, eT, hcl, hsl⟩)
  dsimp only [Pt.U, Pt.locs, Pt.cells, Pt.slots] at X' l1 y1 z1 stp hQ
  subst l1 y1 z1
  exact Go.of (fun t q => stp.trans q) (k T' T'.heap v L1 X' rfl hQ)
theorem Go.face (C : Cx p s m meth c Z own bytes maxL ret nm) (X : Stand p l e R s m args below meth c T locs cells slots) {pc n : Nat} {ls : Array Slot} {rest : List Value} (eT : T.heap = h) {index yL W : Nat} {ybytes : ByteArray} {yret : Option FieldType} {rm : Room} {Q : Option Value → Heap → List Loc → Prop} {argsL : List Value} {st : List Value} {count : Nat} {xi y : MethodName} {a : Addr} {C0 : String} (hC : Ctr l Z y ybytes yL yret rm (.ref a :: argsL).toArray h Q) (wl : (Cond.methodLink own index xi).before a0 Z = true) (wd : (Cond.declares xi).before a0 Z = true) (wf : (Cond.interfaceMethod xi.cls xi.cls xi.name xi.desc).before a0 Z = true) (wsel : (Cond.selects C0 xi y).before a0 Z = true) (wm : (Cond.instanceMethod y).before a0 Z = true) (wp : (Cond.publicMethod y).before a0 Z = true) (wu : (Cond.unhidden C0 xi.name xi.desc).before a0 Z = true) (wca : (Cond.castable C0 xi.cls).before a0 Z = true) (wi : (Cond.initialized y.cls).before a0 Z = true) (wc : (Cond.code y ybytes yL yret).before a0 Z = true) (hy : xi.cls ≠ "java/lang/invoke/MethodHandle" ∧ xi.cls ≠ "java/lang/invoke/VarHandle") (E : Exa Z h a C0)
    (hlen : ∀ sig, parseMethodDescriptor xi.desc = some sig → argsL.length = sig.parameters.length) (hst : st = argsL.reverse ++ .ref a :: rest) (hd : decode bytes pc = .ok (.invokeinterface index count, 5)) (hn : pc + 5 = n) (hsz : ls.size = maxL) (hf : rm.frames + 1 ≤ R.frames) (hW : (rest.map fun v => v.category).sum = W) (hl : W + (yL + 11) + rm.locals ≤ R.locals) (hcl : cells + rm.cells ≤ R.cells) (hsl : slots + rm.slots ≤ R.slots) 
    (k : ∀ T' h' v L, Stand p l e R s m args below meth c T' (locs ++ L) (cells + rm.cells) (slots + rm.slots) → T'.heap = h' → Q v h' L → Go p e below K (T'.setTop (mkF m n ls (v.toList ++ rest)))) : Go p e below K (T.setTop (mkF m pc ls st)) := by
  subst hn hst
  obtain ⟨cq, kq, q1, q2, q3⟩ := isOf C.hZ eT E
  obtain ⟨v, _, ⟨T', L', k', n'⟩, -, X', ⟨L1, hQ, l1, y1, z1⟩, stp⟩ := X.interfaceBack C.hx (xi := xi) (y := y) C.hown (mvT C.hZ wl) (mvT C.hZ wd) (mvT C.hZ wf (by simp [Cond.onTables, Cond.keepsFace, Cond.keeps, Cond.faceAtom, Cond.steady, hy.1, hy.2])) (mvT C.hZ wsel) (mvT C.hZ wm) (mvT C.hZ wp) (mvT C.hZ wu) (mvT C.hZ wca) hy (backOf (W := W) (hC []) C.hZ wc wi hf hl) q1 q2 q3 (g := mkF m pc ls (argsL.reverse ++ .ref a :: rest)) rfl (hsz.trans C.hml.symm) (Steps.refl _) (argsL := argsL) (rest := rest) hlen rfl (by show 2 * 0 + _ ≤ _; omega) (hb C.hby hd) (fun _ _ => ⟨rfl, eT, hcl, hsl⟩)
  dsimp only [Pt.U, Pt.locs, Pt.cells, Pt.slots] at X' l1 y1 z1 stp hQ
  subst l1 y1 z1
  exact Go.of (fun t q => stp.trans q) (k T' T'.heap v L1 X' rfl hQ)
end OwnA
end Jvm.RoadKit
namespace Jvm.RoadKit
open Sem ClassFile Op Lib Jvm.Stand Jvm.Free Jvm.LawKit
section OwnB
variable {p : Program} {l : Launch} {e : Env} {R : Room} {s : State} {m : MethodId} {args : Array Value} {below : List Frame} {meth : Method} {c : Code} {T : State} {locs : List Loc} {cells slots : Nat} {Z : State} {a0 : Array Value} {h h' : Heap} {a b : Addr} {sl : Nat} {v : Value} {ty : FieldType} {vs : List Value} {ws : List Addr}
variable {own nm : String} {bytes : ByteArray} {maxL : Nat} {ret : Option FieldType} {K : Outcome → State → Prop}
theorem wd {tab : List Jvm.Cond} {a0 : Array Value} {Z : State} (hw : ∀ d ∈ tab, d.before a0 Z = true) (k : Nat) {d : Jvm.Cond} (q : tab[k]? = some d) : d.before a0 Z = true := hw d (List.mem_of_getElem? q)
theorem Old.le {n0 : Nat} (O : Old Z n0 h) : n0 ≤ h.size := O.1 ▸ O.2.1
theorem Fr.one {k i : Nat} (q : k ≤ a) : Fr k [⟨a, i⟩] := fun y hy => by cases List.mem_singleton.mp hy; exact q
theorem Go.weaken {Q Q' : Option Value → Heap → List Loc → Prop} {k n : Nat} (q : ∀ v h L, Q v h L → Q' v h L) (g : Go p e below (EndQ s Q k n) T) : Go p e below (EndQ s Q' k n) T := by
  obtain ⟨t, o, h1, h2, h3, v, L, h4, h5, h6⟩ := g
  exact ⟨t, o, h1, h2, h3, v, L, h4, q _ _ _ h5, h6⟩
/-- an array and its components -/
def Arl (Z : State) (h : Heap) (a : Addr) (ty : FieldType) (vs : List Value) : Prop := ∃ c : Cell, Arr Z h a c ty ∧ c.slots.toList = vs ∧ vs.length < 2 ^ 31
theorem Arl.lt (F : Arl Z h a ty vs) : a < h.size := by obtain ⟨c, A, -⟩ := F; exact A.lt
theorem Arl.ext (F : Arl Z h a ty vs) (E : Ext h h') : Arl Z h' a ty vs := by obtain ⟨c, A, r⟩ := F; exact ⟨c, A.ext E, r⟩
theorem Arl.other (F : Arl Z h b ty vs) (W : Wr h h' a sl v) (q : b ≠ a) : Arl Z h' b ty vs := by obtain ⟨c, A, r⟩ := F; exact ⟨c, A.other W q, r⟩
theorem Arl.keep (F : Arl Z h a ty vs) (K : Keep h h' ws) (q : a ∉ ws) : Arl Z h' a ty vs := by obtain ⟨c, A, r⟩ := F; exact ⟨c, ⟨K.2.1 a c A.1 q, A.2⟩, r⟩
theorem Arl.set (F : Arl Z h a ty vs) (W : Wr h h' a sl v) : Arl Z h' a ty (vs.set sl v) := by
  obtain ⟨c, A, e1, r⟩ := F
  exact ⟨c.setSlot sl v, A.same W, by simp [Cell.setSlot, e1], by simpa using r⟩
theorem Arl.new {k : ClassId} {z : Int32} {n : Nat} (A : Arr Z h a (newA k ty z) ty) (hz : z.toInt = n) : Arl Z h a ty (List.replicate n (defaultValue ty)) := by
  have h1 : z.toNatClampNeg = n := by simp only [Int32.toNatClampNeg]; omega
  have h2 := Int32.toInt_lt z
  exact ⟨_, A, by simp [newA, h1], by simp; omega⟩
theorem nat_idx {j : Int32} {i : Nat} (hj : j.toInt = i) : j.toNatClampNeg = i ∧ ¬ j < 0 := by
  refine ⟨by simp only [Int32.toNatClampNeg]; omega, fun q => ?_⟩
  rw [Int32.lt_iff_toInt_lt] at q
  simp at q; omega
theorem Arl.at (F : Arl Z h a ty vs) {j : Int32} {i : Nat} (hj : j.toInt = i) (hv : vs[i]? = some v) : ∃ c : Cell, Arr Z h a c ty ∧ ¬ (j < 0 ∨ c.slots.size ≤ j.toNatClampNeg) ∧ c.slots[j.toNatClampNeg]? = some v := by
  obtain ⟨c, A, e1, r⟩ := F
  obtain ⟨q1, q2⟩ := nat_idx hj
  subst e1
  rw [Array.getElem?_toList] at hv
  obtain ⟨hlt, -⟩ := Array.getElem?_eq_some_iff.mp hv
  exact ⟨c, A, fun q => q.elim q2 (fun q => by omega), by rw [q1]; exact hv⟩
theorem Arl.in (F : Arl Z h a ty vs) {j : Int32} {i : Nat} (hj : j.toInt = i) (hi : i < vs.length) : ∃ c : Cell, Arr Z h a c ty ∧ ¬ (j < 0 ∨ c.slots.size ≤ j.toNatClampNeg) ∧ j.toNatClampNeg = i := by
  obtain ⟨c, A, e1, r⟩ := F
  obtain ⟨q1, q2⟩ := nat_idx hj
  subst e1
  rw [Array.length_toList] at hi
  exact ⟨c, A, fun q => q.elim q2 (fun q => by omega), q1⟩
section Cxs
variable (C : Cx p s m meth c Z own bytes maxL ret nm) (X : Stand p l e R s m args below meth c T locs cells slots) {pc n : Nat} {ls : Array Slot} {rest : List Value} (eT : T.heap = h) {j : Int32}
theorem Go.ialoadL (C : Cx p s m meth c Z own bytes maxL ret nm) (X : Stand p l e R s m args below meth c T locs cells slots) (eT : T.heap = h) (F : Arl Z h a .int vs) (i : Nat) (hj : j.toInt = i) (hv : vs[i]? = some v) (hd : decode bytes pc = .ok (.iaload, 1)) (hn : pc + 1 = n) (k : Go p e below K (T.setTop (mkF m n ls (v :: rest)))) : Go p e below K (T.setTop (mkF m pc ls (.int j :: .ref a :: rest))) := by
  obtain ⟨cl, A, q1, q2⟩ := F.at hj hv
  exact Go.iaload C X eT A q1 q2 hd hn k
theorem Go.caloadL (C : Cx p s m meth c Z own bytes maxL ret nm) (X : Stand p l e R s m args below meth c T locs cells slots) (eT : T.heap = h) (F : Arl Z h a .char vs) (i : Nat) (hj : j.toInt = i) (hv : vs[i]? = some v) (hd : decode bytes pc = .ok (.caload, 1)) (hn : pc + 1 = n) (k : Go p e below K (T.setTop (mkF m n ls (v :: rest)))) : Go p e below K (T.setTop (mkF m pc ls (.int j :: .ref a :: rest))) := by
  obtain ⟨cl, A, q1, q2⟩ := F.at hj hv
  exact Go.caload C X eT A q1 q2 hd hn k
theorem Go.aaloadL (C : Cx p s m meth c Z own bytes maxL ret nm) (X : Stand p l e R s m args below meth c T locs cells slots) (eT : T.heap = h) (hty : ty.isReference = true) (F : Arl Z h a ty vs) (i : Nat) (hj : j.toInt = i) (hv : vs[i]? = some v) (hd : decode bytes pc = .ok (.aaload, 1)) (hn : pc + 1 = n) (k : Go p e below K (T.setTop (mkF m n ls (v :: rest)))) : Go p e below K (T.setTop (mkF m pc ls (.int j :: .ref a :: rest))) := by
  obtain ⟨cl, A, q1, q2⟩ := F.at hj hv
  exact Go.aaload C X eT hty A q1 q2 hd hn k
theorem Go.lengthL (C : Cx p s m meth c Z own bytes maxL ret nm) (X : Stand p l e R s m args below meth c T locs cells slots) (eT : T.heap = h) (F : Arl Z h a ty vs) {z : Int32} (hz : z.toInt = vs.length) (hd : decode bytes pc = .ok (.arraylength, 1)) (hn : pc + 1 = n) (k : Go p e below K (T.setTop (mkF m n ls (.int z :: rest)))) : Go p e below K (T.setTop (mkF m pc ls (.ref a :: rest))) := by
  obtain ⟨cl, A, q1, q2⟩ := F
  refine Go.arraylength C X eT A ?_ hd hn k
  subst q1
  rw [Array.length_toList] at q2 hz
  exact Int32.toInt_inj.mp (by rw [len_toInt q2, hz])
theorem Go.iastoreL (C : Cx p s m meth c Z own bytes maxL ret nm) (X : Stand p l e R s m args below meth c T locs cells slots) (eT : T.heap = h) {x : Int32} (F : Arl Z h a .int vs) (i : Nat) (hj : j.toInt = i) (hi : i < vs.length) (hd : decode bytes pc = .ok (.iastore, 1)) (hn : pc + 1 = n)
    (k : ∀ T' h', Stand p l e R s m args below meth c T' (locs ++ [⟨a, i⟩]) cells slots → T'.heap = h' → Wr h h' a i (.int x) → Arl Z h' a .int (vs.set i (.int x)) → Go p e below K (T'.setTop (mkF m n ls rest))) : Go p e below K (T.setTop (mkF m pc ls (.int x :: .int j :: .ref a :: rest))) := by
  obtain ⟨cl, A, q1, q2⟩ := F.in hj hi
  refine Go.iastore C X eT A q1 hd hn fun T' h' X' e' W => ?_
  rw [q2] at X' W
  exact k T' h' X' e' W (F.set W)
theorem Go.castoreL (C : Cx p s m meth c Z own bytes maxL ret nm) (X : Stand p l e R s m args below meth c T locs cells slots) (eT : T.heap = h) {x : Int32} (F : Arl Z h a .char vs) (i : Nat) (hj : j.toInt = i) (hi : i < vs.length) (hd : decode bytes pc = .ok (.castore, 1)) (hn : pc + 1 = n)
    (k : ∀ T' h', Stand p l e R s m args below meth c T' (locs ++ [⟨a, i⟩]) cells slots → T'.heap = h' → Wr h h' a i (.int (nar .char x)) → Arl Z h' a .char (vs.set i (.int (nar .char x))) → Go p e below K (T'.setTop (mkF m n ls rest))) : Go p e below K (T.setTop (mkF m pc ls (.int x :: .int j :: .ref a :: rest))) := by
  obtain ⟨cl, A, q1, q2⟩ := F.in hj hi
  refine Go.castore C X eT A q1 hd hn fun T' h' X' e' W => ?_
  rw [q2] at X' W
  exact k T' h' X' e' W (F.set W)
theorem Go.bastoreL (C : Cx p s m meth c Z own bytes maxL ret nm) (X : Stand p l e R s m args below meth c T locs cells slots) (eT : T.heap = h) {x : Int32} (F : Arl Z h a .byte vs) (i : Nat) (hj : j.toInt = i) (hi : i < vs.length) (hd : decode bytes pc = .ok (.bastore, 1)) (hn : pc + 1 = n)
    (k : ∀ T' h', Stand p l e R s m args below meth c T' (locs ++ [⟨a, i⟩]) cells slots → T'.heap = h' → Wr h h' a i (.int (nar .byte x)) → Arl Z h' a .byte (vs.set i (.int (nar .byte x))) → Go p e below K (T'.setTop (mkF m n ls rest))) : Go p e below K (T.setTop (mkF m pc ls (.int x :: .int j :: .ref a :: rest))) := by
  obtain ⟨cl, A, q1, q2⟩ := F.in hj hi
  refine Go.bastoreB C X eT A q1 hd hn fun T' h' X' e' W => ?_
  rw [q2] at X' W
  exact k T' h' X' e' W (F.set W)
theorem Go.newL (C : Cx p s m meth c Z own bytes maxL ret nm) (X : Stand p l e R s m args below meth c T locs cells slots) (eT : T.heap = h) {aty : ArrayType} (w : (Cond.arrayClass (newarray.typeOf aty)).before a0 Z = true) {z : Int32} (i : Nat) (hz : z.toInt = i) (cap : Nat) (hcap : i ≤ cap) (hd : decode bytes pc = .ok (.newarray aty, 2)) (hn : pc + 2 = n) (hb8 : cap * 8 ≤ 536870912) (hc : cells + 1 ≤ R.cells) (hl : slots + cap ≤ R.slots)
    (k : ∀ T' h' a, a = h.size → Stand p l e R s m args below meth c T' locs (cells + 1) (slots + cap) → T'.heap = h' → Ext h h' → Arl Z h' a (newarray.typeOf aty) (List.replicate i (defaultValue (newarray.typeOf aty))) → Go p e below K (T'.setTop (mkF m n ls (.ref a :: rest)))) : Go p e below K (T.setTop (mkF m pc ls (.int z :: rest))) := by
  obtain ⟨q1, q2⟩ := nat_idx hz
  exact Go.newP C X eT w hd hn q2 cap (by rw [q1]; exact hcap) hb8 hc hl fun T' h' a' cA e1 X' e' E A => k T' h' a' e1 X' e' E (Arl.new A hz)
theorem Go.newLE (C : Cx p s m meth c Z own bytes maxL ret nm) (X : Stand p l e R s m args below meth c T locs cells slots) (eT : T.heap = h) {aty : ArrayType} (w : (Cond.arrayClass (newarray.typeOf aty)).before a0 Z = true) {z : Int32} (i : Nat) (hz : z.toInt = i) (cap : Nat) (hcap : i ≤ cap) (hd : decode bytes pc = .ok (.newarray aty, 2)) (hn : pc + 2 = n) (hb8 : cap * 8 ≤ 536870912) (hc : cells + 1 ≤ R.cells) (hl : slots + cap ≤ R.slots) {ad : String} (had : "[" ++ (newarray.typeOf aty).toString = ad)
    (k : ∀ T' h' a, a = h.size → Stand p l e R s m args below meth c T' locs (cells + 1) (slots + cap) → T'.heap = h' → Ext h h' → Arl Z h' a (newarray.typeOf aty) (List.replicate i (defaultValue (newarray.typeOf aty))) → Exa Z h' a ad → Go p e below K (T'.setTop (mkF m n ls (.ref a :: rest)))) : Go p e below K (T.setTop (mkF m pc ls (.int z :: rest))) := by
  obtain ⟨q1, q2⟩ := nat_idx hz
  exact Go.newPE C X eT w hd hn q2 cap (by rw [q1]; exact hcap) hb8 hc hl had fun T' h' a' cA e1 X' e' E A x' => k T' h' a' e1 X' e' E (Arl.new A hz) x'
theorem Go.cloneL (C : Cx p s m meth c Z own bytes maxL ret nm) (X : Stand p l e R s m args below meth c T locs cells slots) (eT : T.heap = h) {index : Nat} {ad : String} (w1 : (Cond.methodLink own index ⟨ad, "clone", "()Ljava/lang/Object;"⟩).before a0 Z = true) (w2 : (Cond.sameMethod ad "java/lang/Object" "clone" "()Ljava/lang/Object;").before a0 Z = true) (w3 : (Cond.native ⟨"java/lang/Object", "clone", "()Ljava/lang/Object;"⟩).before a0 Z = true) (w4 : (Cond.instanceMethod ⟨"java/lang/Object", "clone", "()Ljava/lang/Object;"⟩).before a0 Z = true) (w5 : (Cond.selects ad ⟨ad, "clone", "()Ljava/lang/Object;"⟩ ⟨"java/lang/Object", "clone", "()Ljava/lang/Object;"⟩).before a0 Z = true) (w6 : (Cond.castable ad "java/lang/Cloneable").before a0 Z = true)
    (F : Arl Z h a ty vs) (E : Exa Z h a ad) (hfit : ∀ v ∈ vs, fits ty v = true) (hd : decode bytes pc = .ok (.invokevirtual index, 3)) (hn : pc + 3 = n) (hsz : ls.size = maxL) (hf : 1 ≤ R.frames) {W : Nat} (hW : (rest.map fun v => v.category).sum = W) (hl : W + 14 ≤ R.locals) (cap : Nat) (hcap : vs.length ≤ cap) (hc : cells + 1 ≤ R.cells) (hsl : slots + cap ≤ R.slots)
    (k : ∀ T' h' b, b = h.size → Stand p l e R s m args below meth c T' locs (cells + 1) (slots + cap) → T'.heap = h' → Ext h h' → Arl Z h' b ty vs → Exa Z h' b ad → Go p e below K (T'.setTop (mkF m n ls (.ref b :: rest)))) : Go p e below K (T.setTop (mkF m pc ls (.ref a :: rest))) := by
  obtain ⟨cl, A, q1, q2⟩ := F
  have FC : FitC Z cl := fitC_of A fun i hi v hv => hfit v (by rw [← q1]; exact Array.mem_toList_iff.mpr (Array.mem_of_getElem? hv))
  exact Go.cloneA C X eT w1 w2 w3 w4 w5 w6 A E FC hd hn hsz hf hW hl cap (by rw [← Array.length_toList, q1]; exact hcap) hc hsl fun T' h' b e1 X' e' E' A' x' => k T' h' b e1 X' e' E' ⟨_, A', q1, q2⟩ x'
end Cxs
/-! from the words of a case -/
theorem fldI {args : Array Value} {t : Term} {C f d : String} {k : Int32} (ev : t.eval args s none [] s = some (.ref a)) (q : (Cond.eq (.field t C f d) (.int k)).value args s none s [] = some true) : Fld s s.heap a C f d (.int k) := by
  obtain ⟨x, y, e1, e2, k1, k2⟩ := cmp_v (Or.inl q)
  cases e2
  obtain ⟨z, rfl⟩ := k2
  have e3 : (Term.int k).eval args s none [] s = some (.int k) := rfl
  have q2 : (Cond.eq (.field t C f d) (.int k)).value args s none s [] = some (decide (z = k)) := by simp [Cond.value, e1, e3]
  have q3 := gotT q2 q
  subst q3
  rw [fld_at ev] at e1
  exact Fld.start e1
theorem staE {args : Array Value} {C n d K : String} (q : (Cond.exactly (.static C n d) K).value args s none s [] = some true) (w1 : (Cond.initialized C).before args s = true) (w2 : (Cond.laysStatic C n d).before args s = true) : ∃ a, (Term.static C n d).eval args s none [] s = some (.ref a) ∧ Sta s s.heap C n d (.ref a) ∧ Exa s s.heap a K := by
  obtain ⟨a, ev⟩ := exa_v q
  exact ⟨a, ev, Sta.start ev (Or.inr ⟨w1, w2⟩), Exa.start ev q⟩
end OwnB
end Jvm.RoadKit
namespace Jvm.Pilot.@@N@@
open Jvm Jvm.ClassFile Sem Op Lib Jvm.Free Jvm.Stand Jvm.LawKit Jvm.RoadKit Bundle Jvm.Pilot.@@N@@.Jvm.D
theorem pn_0 : plainName "java/io/OutputStream" = true := by first | (simp [plainName, overriddenIn]; done) | decide +kernel
theorem d6_0 : decode jdk_2038_method_1_code 0 = .ok (.aload_n 0, 1) := by decide +kernel
theorem d6_1 : decode jdk_2038_method_1_code 1 = .ok (.invokespecial 1, 3) := by decide +kernel
theorem d6_4 : decode jdk_2038_method_1_code 4 = .ok (.return_, 1) := by decide +kernel
set_option maxRecDepth 65536 in
set_option maxHeartbeats 40000000 in
theorem rm6 (l : Launch) (Z : State) (a0 : Array Value) (hw : ∀ d ∈ tables_1, d.before a0 Z = true) (n0 : Nat) (h0 : Heap) (a : Addr) :
    Ctr l Z (⟨"java/io/OutputStream", "<init>", "()V"⟩ : MethodName) jdk_2038_method_1_code 1 none ({ frames := 1, cells := 0, slots := 0, locals := 12 } : Room) #[(.ref a)] h0 (fun v h L => v = none ∧ L = [] ∧ h = h0) := by
  refine Ctr.mk (plainFor_of_name pn_0) (ls := #[.val (.ref a)]) (fun m => by first | (simp [entryFrame, mkF, argsToLocals, Value.category]; done) | rfl) ?_
  intro p e s m below meth c T C X eT hs0
  have N := Fr.nil n0
  show Go p e below _ (T.setTop (mkF m 0 #[.val (.ref a)] []))
  refine Go.aloadN C X d6_0 (n := 1) rfl rfl rfl ?_
  refine Go.initO C X eT (W := 0) (wd hw 32 rfl) (wd hw 7 rfl) (wd hw 8 rfl) d6_1 (n := 4) rfl rfl (by decide) rfl (by decide) ?_
  clear X eT
  intro T X eT
  refine Go.ret0 C X eT d6_4 (by decide) (by decide) ?_
  exact ⟨rfl, rfl, rfl⟩
theorem pd_0 : parseMethodDescriptor "()V" = some ⟨[], none⟩ := by decide +kernel
theorem pn_1 : plainName "java/io/ByteArrayOutputStream" = true := by first | (simp [plainName, overriddenIn]; done) | decide +kernel
theorem d5_0 : decode jdk_2005_method_2_code 0 = .ok (.aload_n 0, 1) := by decide +kernel
theorem d5_1 : decode jdk_2005_method_2_code 1 = .ok (.invokespecial 7, 3) := by decide +kernel
theorem d5_4 : decode jdk_2005_method_2_code 4 = .ok (.iload_n 1, 1) := by decide +kernel
theorem d5_5 : decode jdk_2005_method_2_code 5 = .ok (.ifCond .ge 30, 3) := by decide +kernel
theorem d5_8 : decode jdk_2005_method_2_code 8 = .ok (.new 12, 3) := by decide +kernel
theorem d5_11 : decode jdk_2005_method_2_code 11 = .ok (.dup, 1) := by decide +kernel
theorem d5_12 : decode jdk_2005_method_2_code 12 = .ok (.new 14, 3) := by decide +kernel
theorem d5_15 : decode jdk_2005_method_2_code 15 = .ok (.dup, 1) := by decide +kernel
theorem d5_16 : decode jdk_2005_method_2_code 16 = .ok (.invokespecial 16, 3) := by decide +kernel
theorem d5_19 : decode jdk_2005_method_2_code 19 = .ok (.ldc 17, 2) := by decide +kernel
theorem d5_21 : decode jdk_2005_method_2_code 21 = .ok (.invokevirtual 19, 3) := by decide +kernel
theorem d5_24 : decode jdk_2005_method_2_code 24 = .ok (.iload_n 1, 1) := by decide +kernel
theorem d5_25 : decode jdk_2005_method_2_code 25 = .ok (.invokevirtual 23, 3) := by decide +kernel
theorem d5_28 : decode jdk_2005_method_2_code 28 = .ok (.invokevirtual 26, 3) := by decide +kernel
theorem d5_31 : decode jdk_2005_method_2_code 31 = .ok (.invokespecial 30, 3) := by decide +kernel
theorem d5_34 : decode jdk_2005_method_2_code 34 = .ok (.athrow, 1) := by decide +kernel
theorem d5_35 : decode jdk_2005_method_2_code 35 = .ok (.aload_n 0, 1) := by decide +kernel
theorem d5_36 : decode jdk_2005_method_2_code 36 = .ok (.iload_n 1, 1) := by decide +kernel
theorem d5_37 : decode jdk_2005_method_2_code 37 = .ok (.newarray .byte, 2) := by decide +kernel
theorem d5_39 : decode jdk_2005_method_2_code 39 = .ok (.putfield 33, 3) := by decide +kernel
theorem d5_42 : decode jdk_2005_method_2_code 42 = .ok (.return_, 1) := by decide +kernel
set_option maxRecDepth 65536 in
set_option maxHeartbeats 40000000 in
theorem rm5 (l : Launch) (Z : State) (a0 : Array Value) (hw : ∀ d ∈ tables_1, d.before a0 Z = true) (n0 : Nat) (h0 : Heap) (a : Addr) (g_a : n0 ≤ a) (E_a : Exa Z h0 a "java/io/ByteArrayOutputStream") (F_a_buf : Fld Z h0 a "java/io/ByteArrayOutputStream" "buf" "[B" .null) (O : Old Z n0 h0) :
    Ctr l Z (⟨"java/io/ByteArrayOutputStream", "<init>", "(I)V"⟩ : MethodName) jdk_2005_method_2_code 2 none ({ frames := 2, cells := 1, slots := 32, locals := 24 } : Room) #[(.ref a), (.int (32 : Int32))] h0 (fun v h L => v = none ∧ Fr n0 L ∧ Keep h0 h [a]) := by
  refine Ctr.mk (plainFor_of_name pn_1) (ls := #[.val (.ref a), .val (.int (32 : Int32))]) (fun m => by first | (simp [entryFrame, mkF, argsToLocals, Value.category]; done) | rfl) ?_
  intro p e s m below meth c T C X eT hs0
  have N := Fr.nil n0
  show Go p e below _ (T.setTop (mkF m 0 #[.val (.ref a), .val (.int (32 : Int32))] []))
  have KP : Keep h0 h0 [a] := Keep.refl _ _
  refine Go.aloadN C X d5_0 (n := 1) rfl rfl rfl ?_
  refine Go.spec C X eT (argsL := []) (rest := []) (a := a) (rm6 l Z a0 hw n0 _ a) rfl (wd hw 26 rfl) (wd hw 27 rfl) (wd hw 30 rfl) (wd hw 31 rfl) (by decide) (lenOf pd_0 rfl) rfl d5_1 (n := 4) rfl rfl (by decide) (W := 0) rfl (by decide) (by decide) (by decide) ?_
  clear X eT
  intro T h' v L X eT hQ
  obtain ⟨rfl, rfl, hE⟩ := hQ
  replace hE := hE.symm
  subst hE
  replace N := N.app (Fr.nil n0)
  show Go p e below _ (T.setTop (mkF m 4 #[.val (.ref a), .val (.int (32 : Int32))] []))
  refine Go.iloadN C X d5_4 (n := 5) rfl rfl ?_
  refine Go.if0_ge C X d5_5 (n1 := 35) (n2 := 8) (by decide) (by decide) rfl (fun hc5 => ?_) (fun hc5 => ?_)
  · refine Go.aloadN C X d5_35 (n := 36) rfl rfl rfl ?_
    refine Go.iloadN C X d5_36 (n := 37) rfl rfl ?_
    refine Go.newL C X eT (wd hw 33 rfl) (i := 32) rfl (cap := 32) (by decide) d5_37 (n := 39) rfl (by decide) (by decide) (by decide) ?_
    clear X eT
    intro T h t z_t X eT E V_t
    have ne_a_t : a ≠ t := Nat.ne_of_lt (Nat.lt_of_lt_of_le E_a.lt (Nat.le_of_eq z_t.symm))
    have g_t : n0 ≤ t := by rw [z_t]; exact O.le
    have s_t : h0.size ≤ t := by rw [z_t]; exact KP.1
    replace E_a := E_a.ext E
    replace F_a_buf := F_a_buf.ext E
    replace O := O.ext E
    replace KP := KP.ext E
    refine Go.putF C X eT (wd hw 34 rfl) Via.refl F_a_buf E_a (Or.inl (wd hw 35 rfl)) (wd hw 17 rfl) (ty := (.array .byte)) (by decide) rfl rfl d5_39 (n := 42) rfl ?_
    clear X eT
    intro T h X eT W
    replace E_a := E_a.wr W
    replace F_a_buf := F_a_buf.same W
    replace O := O.wr W g_a
    replace KP := KP.wr W (Or.inl (List.mem_of_getElem? (i := 0) rfl))
    replace V_t := V_t.other W (Ne.symm ne_a_t)
    replace N := Fr.snoc X N g_a
    refine Go.ret0 C X eT d5_42 (by decide) (by decide) ?_
    exact ⟨rfl, N, KP⟩
  · exact absurd hc5 (by decide)
theorem pd_1 : parseMethodDescriptor "(I)V" = some ⟨[.int], none⟩ := by decide +kernel
theorem d4_0 : decode jdk_2005_method_1_code 0 = .ok (.aload_n 0, 1) := by decide +kernel
theorem d4_1 : decode jdk_2005_method_1_code 1 = .ok (.bipush 32, 2) := by decide +kernel
theorem d4_3 : decode jdk_2005_method_1_code 3 = .ok (.invokespecial 1, 3) := by decide +kernel
theorem d4_6 : decode jdk_2005_method_1_code 6 = .ok (.return_, 1) := by decide +kernel
set_option maxRecDepth 65536 in
set_option maxHeartbeats 40000000 in
theorem rm4 (l : Launch) (Z : State) (a0 : Array Value) (hw : ∀ d ∈ tables_1, d.before a0 Z = true) (n0 : Nat) (h0 : Heap) (a : Addr) (g_a : n0 ≤ a) (E_a : Exa Z h0 a "java/io/ByteArrayOutputStream") (F_a_buf : Fld Z h0 a "java/io/ByteArrayOutputStream" "buf" "[B" .null) (O : Old Z n0 h0) :
    Ctr l Z (⟨"java/io/ByteArrayOutputStream", "<init>", "()V"⟩ : MethodName) jdk_2005_method_1_code 1 none ({ frames := 3, cells := 1, slots := 32, locals := 37 } : Room) #[(.ref a)] h0 (fun v h L => v = none ∧ Fr n0 L ∧ Keep h0 h [a]) := by
  refine Ctr.mk (plainFor_of_name pn_1) (ls := #[.val (.ref a)]) (fun m => by first | (simp [entryFrame, mkF, argsToLocals, Value.category]; done) | rfl) ?_
  intro p e s m below meth c T C X eT hs0
  have N := Fr.nil n0
  show Go p e below _ (T.setTop (mkF m 0 #[.val (.ref a)] []))
  refine Go.aloadN C X d4_0 (n := 1) rfl rfl rfl ?_
  refine Go.bipush C X d4_1 (n := 3) rfl (v := (32 : Int32)) rfl ?_
  refine Go.spec C X eT (argsL := [(.int (32 : Int32))]) (rest := []) (a := a) (rm5 l Z a0 hw n0 _ a g_a E_a F_a_buf O) rfl (wd hw 22 rfl) (wd hw 23 rfl) (wd hw 18 rfl) (wd hw 25 rfl) (by decide) (lenOf pd_1 rfl) rfl d4_3 (n := 6) rfl rfl (by decide) (W := 0) rfl (by decide) (by decide) (by decide) ?_
  clear X eT
  intro T h v L X eT hQ
  obtain ⟨rfl, Nq, KK⟩ := hQ
  replace N := N.app Nq
  replace E_a := E_a.keep KK
  replace O := O.keep KK (allS g_a all0)
  show Go p e below _ (T.setTop (mkF m 6 #[.val (.ref a)] []))
  refine Go.ret0 C X eT d4_6 (by decide) (by decide) ?_
  exact ⟨rfl, N, KK⟩
theorem pn_2 : plainName "com/example/wirepeek/wirepeek/ui/ShownBytes" = true := by first | (simp [plainName, overriddenIn]; done) | decide +kernel
theorem d3_0 : decode prog_109_method_1_code 0 = .ok (.aload_n 0, 1) := by decide +kernel
theorem d3_1 : decode prog_109_method_1_code 1 = .ok (.invokespecial 1, 3) := by decide +kernel
theorem d3_4 : decode prog_109_method_1_code 4 = .ok (.aload_n 0, 1) := by decide +kernel
theorem d3_5 : decode prog_109_method_1_code 5 = .ok (.new 7, 3) := by decide +kernel
theorem d3_8 : decode prog_109_method_1_code 8 = .ok (.dup, 1) := by decide +kernel
theorem d3_9 : decode prog_109_method_1_code 9 = .ok (.invokespecial 9, 3) := by decide +kernel
theorem d3_12 : decode prog_109_method_1_code 12 = .ok (.putfield 10, 3) := by decide +kernel
theorem d3_15 : decode prog_109_method_1_code 15 = .ok (.aload_n 0, 1) := by decide +kernel
theorem d3_16 : decode prog_109_method_1_code 16 = .ok (.iload_n 1, 1) := by decide +kernel
theorem d3_17 : decode prog_109_method_1_code 17 = .ok (.putfield 16, 3) := by decide +kernel
theorem d3_20 : decode prog_109_method_1_code 20 = .ok (.return_, 1) := by decide +kernel
set_option maxRecDepth 65536 in
set_option maxHeartbeats 40000000 in
theorem rm3 (l : Launch) (Z : State) (a0 : Array Value) (hw : ∀ d ∈ tables_1, d.before a0 Z = true) (n0 : Nat) (h0 : Heap) (a : Addr) (q : Int32) (g_a : n0 ≤ a) (E_a : Exa Z h0 a "com/example/wirepeek/wirepeek/ui/ShownBytes") (F_a_kept : Fld Z h0 a "com/example/wirepeek/wirepeek/ui/ShownBytes" "kept" "Ljava/io/ByteArrayOutputStream;" .null) (F_a_limit : Fld Z h0 a "com/example/wirepeek/wirepeek/ui/ShownBytes" "limit" "I" (.int (0 : Int32))) (F_a_count : Fld Z h0 a "com/example/wirepeek/wirepeek/ui/ShownBytes" "count" "J" (.long (0 : Int64))) (O : Old Z n0 h0) :
    Ctr l Z (⟨"com/example/wirepeek/wirepeek/ui/ShownBytes", "<init>", "(I)V"⟩ : MethodName) prog_109_method_1_code 2 none ({ frames := 4, cells := 2, slots := 34, locals := 51 } : Room) #[(.ref a), (.int q)] h0 (fun v h L => v = none ∧ Fr n0 L ∧ Keep h0 h [a] ∧ Exa Z h a "com/example/wirepeek/wirepeek/ui/ShownBytes" ∧ Fld Z h a "com/example/wirepeek/wirepeek/ui/ShownBytes" "count" "J" (.long (0 : Int64))) := by
  refine Ctr.mk (plainFor_of_name pn_2) (ls := #[.val (.ref a), .val (.int q)]) (fun m => by first | (simp [entryFrame, mkF, argsToLocals, Value.category]; done) | rfl) ?_
  intro p e s m below meth c T C X eT hs0
  have N := Fr.nil n0
  show Go p e below _ (T.setTop (mkF m 0 #[.val (.ref a), .val (.int q)] []))
  have KP : Keep h0 h0 [a] := Keep.refl _ _
  refine Go.aloadN C X d3_0 (n := 1) rfl rfl rfl ?_
  refine Go.initO C X eT (W := 0) (wd hw 15 rfl) (wd hw 7 rfl) (wd hw 8 rfl) d3_1 (n := 4) rfl rfl (by decide) rfl (by decide) ?_
  clear X eT
  intro T X eT
  refine Go.aloadN C X d3_4 (n := 5) rfl rfl rfl ?_
  refine Go.newO C X eT (wd hw 16 rfl) (wd hw 17 rfl) (wd hw 18 rfl) d3_5 (n := 8) rfl (by decide) (by decide) ?_
  clear X eT
  intro T h t z_t X eT E E_t D_
  have ne_a_t : a ≠ t := Nat.ne_of_lt (Nat.lt_of_lt_of_le E_a.lt (Nat.le_of_eq z_t.symm))
  have g_t : n0 ≤ t := by rw [z_t]; exact O.le
  have s_t : h0.size ≤ t := by rw [z_t]; exact KP.1
  replace E_a := E_a.ext E
  replace F_a_kept := F_a_kept.ext E
  replace F_a_limit := F_a_limit.ext E
  replace F_a_count := F_a_count.ext E
  replace O := O.ext E
  replace KP := KP.ext E
  have F_t_buf : Fld Z h t "java/io/ByteArrayOutputStream" "buf" "[B" .null := D_ (Or.inl (wd hw 35 rfl)) (ty := (.array .byte)) (by decide)
  refine Go.dup C X d3_8 (n := 9) rfl rfl ?_
  refine Go.spec C X eT (argsL := []) (rest := [(.ref t), (.ref a)]) (a := t) (rm4 l Z a0 hw n0 _ t g_t E_t F_t_buf O) rfl (wd hw 19 rfl) (wd hw 20 rfl) (wd hw 18 rfl) (wd hw 21 rfl) (by decide) (lenOf pd_0 rfl) rfl d3_9 (n := 12) rfl rfl (by decide) (W := 2) rfl (by decide) (by decide) (by decide) ?_
  clear X eT
  intro T h v L X eT hQ
  obtain ⟨rfl, Nq, KK⟩ := hQ
  replace N := N.app Nq
  replace E_a := E_a.keep KK
  replace F_a_kept := F_a_kept.keep KK (ninS ne_a_t nin0)
  replace F_a_limit := F_a_limit.keep KK (ninS ne_a_t nin0)
  replace F_a_count := F_a_count.keep KK (ninS ne_a_t nin0)
  replace O := O.keep KK (allS g_t all0)
  replace KP := KP.trans KK (allS (Or.inr s_t) all0)
  replace E_t := E_t.keep KK
  show Go p e below _ (T.setTop (mkF m 12 #[.val (.ref a), .val (.int q)] [(.ref t), (.ref a)]))
  refine Go.putF C X eT (wd hw 36 rfl) Via.refl F_a_kept E_a (Or.inr ⟨(wd hw 37 rfl), rfl, rfl⟩) (wd hw 10 rfl) (ty := (.object "java/io/ByteArrayOutputStream")) (by decide) rfl rfl d3_12 (n := 15) rfl ?_
  clear X eT
  intro T h X eT W
  replace E_a := E_a.wr W
  replace F_a_kept := F_a_kept.same W
  replace F_a_limit := F_a_limit.other W (Or.inr (slot_ne (Or.inr (wd hw 39 rfl)) (Or.inr (wd hw 37 rfl)) (by decide) (t := .int) (t' := (.object "java/io/ByteArrayOutputStream")) (by decide) (by decide)))
  replace F_a_count := F_a_count.other W (Or.inr (slot_ne (Or.inl (wd hw 70 rfl)) (Or.inr (wd hw 37 rfl)) (by decide) (t := .long) (t' := (.object "java/io/ByteArrayOutputStream")) (by decide) (by decide)))
  replace O := O.wr W g_a
  replace KP := KP.wr W (Or.inl (List.mem_of_getElem? (i := 0) rfl))
  replace E_t := E_t.wr W
  replace N := Fr.snoc X N g_a
  refine Go.aloadN C X d3_15 (n := 16) rfl rfl rfl ?_
  refine Go.iloadN C X d3_16 (n := 17) rfl rfl ?_
  refine Go.putF C X eT (wd hw 38 rfl) Via.refl F_a_limit E_a (Or.inr ⟨(wd hw 39 rfl), rfl, rfl⟩) (wd hw 10 rfl) (ty := .int) (by decide) rfl rfl d3_17 (n := 20) rfl ?_
  clear X eT
  intro T h X eT W
  replace E_a := E_a.wr W
  replace F_a_kept := F_a_kept.other W (Or.inr (slot_ne (Or.inr (wd hw 37 rfl)) (Or.inr (wd hw 39 rfl)) (by decide) (t := (.object "java/io/ByteArrayOutputStream")) (t' := .int) (by decide) (by decide)))
  replace F_a_limit := F_a_limit.same W
  replace F_a_count := F_a_count.other W (Or.inr (slot_ne (Or.inl (wd hw 70 rfl)) (Or.inr (wd hw 39 rfl)) (by decide) (t := .long) (t' := .int) (by decide) (by decide)))
  replace O := O.wr W g_a
  replace KP := KP.wr W (Or.inl (List.mem_of_getElem? (i := 0) rfl))
  replace E_t := E_t.wr W
  replace N := Fr.snoc X N g_a
  refine Go.ret0 C X eT d3_20 (by decide) (by decide) ?_
  exact ⟨rfl, N, KP, E_a, F_a_count⟩
theorem pn_3 : plainName "com/example/wirepeek/wirepeek/ui/ShownReply" = true := by first | (simp [plainName, overriddenIn]; done) | decide +kernel
theorem d1_0 : decode prog_110_method_1_code 0 = .ok (.aload_n 0, 1) := by decide +kernel
theorem d1_1 : decode prog_110_method_1_code 1 = .ok (.invokespecial 1, 3) := by decide +kernel
theorem d1_4 : decode prog_110_method_1_code 4 = .ok (.aload_n 0, 1) := by decide +kernel
theorem d1_5 : decode prog_110_method_1_code 5 = .ok (.new 7, 3) := by decide +kernel
theorem d1_8 : decode prog_110_method_1_code 8 = .ok (.dup, 1) := by decide +kernel
theorem d1_9 : decode prog_110_method_1_code 9 = .ok (.iload_n 1, 1) := by decide +kernel
theorem d1_10 : decode prog_110_method_1_code 10 = .ok (.invokespecial 9, 3) := by decide +kernel
theorem d1_13 : decode prog_110_method_1_code 13 = .ok (.putfield 12, 3) := by decide +kernel
theorem d1_16 : decode prog_110_method_1_code 16 = .ok (.aload_n 0, 1) := by decide +kernel
theorem d1_17 : decode prog_110_method_1_code 17 = .ok (.new 7, 3) := by decide +kernel
theorem d1_20 : decode prog_110_method_1_code 20 = .ok (.dup, 1) := by decide +kernel
theorem d1_21 : decode prog_110_method_1_code 21 = .ok (.iload_n 1, 1) := by decide +kernel
theorem d1_22 : decode prog_110_method_1_code 22 = .ok (.invokespecial 9, 3) := by decide +kernel
theorem d1_25 : decode prog_110_method_1_code 25 = .ok (.putfield 18, 3) := by decide +kernel
theorem d1_28 : decode prog_110_method_1_code 28 = .ok (.aload_n 0, 1) := by decide +kernel
theorem d1_29 : decode prog_110_method_1_code 29 = .ok (.new 7, 3) := by decide +kernel
theorem d1_32 : decode prog_110_method_1_code 32 = .ok (.dup, 1) := by decide +kernel
theorem d1_33 : decode prog_110_method_1_code 33 = .ok (.iload_n 1, 1) := by decide +kernel
theorem d1_34 : decode prog_110_method_1_code 34 = .ok (.invokespecial 9, 3) := by decide +kernel
theorem d1_37 : decode prog_110_method_1_code 37 = .ok (.putfield 21, 3) := by decide +kernel
theorem d1_40 : decode prog_110_method_1_code 40 = .ok (.return_, 1) := by decide +kernel
set_option maxRecDepth 65536 in
set_option maxHeartbeats 40000000 in
theorem rm1 (l : Launch) (Z : State) (a0 : Array Value) (hw : ∀ d ∈ tables_1, d.before a0 Z = true) (n0 : Nat) (h0 : Heap) (a : Addr) (q : Int32) (g_a : n0 ≤ a) (E_a : Exa Z h0 a "com/example/wirepeek/wirepeek/ui/ShownReply") (F_a_body : Fld Z h0 a "com/example/wirepeek/wirepeek/ui/ShownReply" "body" "Lcom/example/wirepeek/wirepeek/ui/ShownBytes;" .null) (F_a_unreadableHead : Fld Z h0 a "com/example/wirepeek/wirepeek/ui/ShownReply" "unreadableHead" "Lcom/example/wirepeek/wirepeek/ui/ShownBytes;" .null) (F_a_unreadableChunks : Fld Z h0 a "com/example/wirepeek/wirepeek/ui/ShownReply" "unreadableChunks" "Lcom/example/wirepeek/wirepeek/ui/ShownBytes;" .null) (F_a_received : Fld Z h0 a "com/example/wirepeek/wirepeek/ui/ShownReply" "received" "J" (.long (0 : Int64))) (O : Old Z n0 h0) :
    Ctr l Z (⟨"com/example/wirepeek/wirepeek/ui/ShownReply", "<init>", "(I)V"⟩ : MethodName) prog_110_method_1_code 2 none ({ frames := 5, cells := 9, slots := 111, locals := 66 } : Room) #[(.ref a), (.int q)] h0 (fun v h L => v = none ∧ Fr n0 L ∧ Keep h0 h [a] ∧ Exa Z h a "com/example/wirepeek/wirepeek/ui/ShownReply" ∧ Fld Z h a "com/example/wirepeek/wirepeek/ui/ShownReply" "received" "J" (.long (0 : Int64)) ∧ ∃ t1 t2 t3 : Addr, (a ≠ t1 ∧ a ≠ t2 ∧ a ≠ t3) ∧ (Fld Z h a "com/example/wirepeek/wirepeek/ui/ShownReply" "body" "Lcom/example/wirepeek/wirepeek/ui/ShownBytes;" (.ref t1) ∧ Fld Z h a "com/example/wirepeek/wirepeek/ui/ShownReply" "unreadableHead" "Lcom/example/wirepeek/wirepeek/ui/ShownBytes;" (.ref t2) ∧ Fld Z h a "com/example/wirepeek/wirepeek/ui/ShownReply" "unreadableChunks" "Lcom/example/wirepeek/wirepeek/ui/ShownBytes;" (.ref t3)) ∧ (Exa Z h t1 "com/example/wirepeek/wirepeek/ui/ShownBytes" ∧ Exa Z h t2 "com/example/wirepeek/wirepeek/ui/ShownBytes" ∧ Exa Z h t3 "com/example/wirepeek/wirepeek/ui/ShownBytes") ∧ Fld Z h t1 "com/example/wirepeek/wirepeek/ui/ShownBytes" "count" "J" (.long (0 : Int64)) ∧ Fld Z h t2 "com/example/wirepeek/wirepeek/ui/ShownBytes" "count" "J" (.long (0 : Int64)) ∧ Fld Z h t3 "com/example/wirepeek/wirepeek/ui/ShownBytes" "count" "J" (.long (0 : Int64))) := by
  refine Ctr.mk (plainFor_of_name pn_3) (ls := #[.val (.ref a), .val (.int q)]) (fun m => by first | (simp [entryFrame, mkF, argsToLocals, Value.category]; done) | rfl) ?_
  intro p e s m below meth c T C X eT hs0
  have N := Fr.nil n0
  show Go p e below _ (T.setTop (mkF m 0 #[.val (.ref a), .val (.int q)] []))
  have KP : Keep h0 h0 [a] := Keep.refl _ _
  refine Go.aloadN C X d1_0 (n := 1) rfl rfl rfl ?_
  refine Go.initO C X eT (W := 0) (wd hw 6 rfl) (wd hw 7 rfl) (wd hw 8 rfl) d1_1 (n := 4) rfl rfl (by decide) rfl (by decide) ?_
  clear X eT
  intro T X eT
  refine Go.aloadN C X d1_4 (n := 5) rfl rfl rfl ?_
  refine Go.newO C X eT (wd hw 9 rfl) (wd hw 10 rfl) (wd hw 11 rfl) d1_5 (n := 8) rfl (by decide) (by decide) ?_
  clear X eT
  intro T h t1 z_t1 X eT E E_t1 D_
  have ne_a_t1 : a ≠ t1 := Nat.ne_of_lt (Nat.lt_of_lt_of_le E_a.lt (Nat.le_of_eq z_t1.symm))
  have g_t1 : n0 ≤ t1 := by rw [z_t1]; exact O.le
  have s_t1 : h0.size ≤ t1 := by rw [z_t1]; exact KP.1
  replace E_a := E_a.ext E
  replace F_a_body := F_a_body.ext E
  replace F_a_unreadableHead := F_a_unreadableHead.ext E
  replace F_a_unreadableChunks := F_a_unreadableChunks.ext E
  replace F_a_received := F_a_received.ext E
  replace O := O.ext E
  replace KP := KP.ext E
  have F_t1_kept : Fld Z h t1 "com/example/wirepeek/wirepeek/ui/ShownBytes" "kept" "Ljava/io/ByteArrayOutputStream;" .null := D_ (Or.inr (wd hw 37 rfl)) (ty := (.object "java/io/ByteArrayOutputStream")) (by decide)
  have F_t1_limit : Fld Z h t1 "com/example/wirepeek/wirepeek/ui/ShownBytes" "limit" "I" (.int (0 : Int32)) := D_ (Or.inr (wd hw 39 rfl)) (ty := .int) (by decide)
  have F_t1_count : Fld Z h t1 "com/example/wirepeek/wirepeek/ui/ShownBytes" "count" "J" (.long (0 : Int64)) := D_ (Or.inl (wd hw 70 rfl)) (ty := .long) (by decide)
  refine Go.dup C X d1_8 (n := 9) rfl rfl ?_
  refine Go.iloadN C X d1_9 (n := 10) rfl rfl ?_
  refine Go.spec C X eT (argsL := [(.int q)]) (rest := [(.ref t1), (.ref a)]) (a := t1) (rm3 l Z a0 hw n0 _ t1 q g_t1 E_t1 F_t1_kept F_t1_limit F_t1_count O) rfl (wd hw 12 rfl) (wd hw 13 rfl) (wd hw 11 rfl) (wd hw 14 rfl) (by decide) (lenOf pd_1 rfl) rfl d1_10 (n := 13) rfl rfl (by decide) (W := 2) rfl (by decide) (by decide) (by decide) ?_
  clear X eT
  intro T h v L X eT hQ
  obtain ⟨rfl, Nq, KK, E_t1, F_t1_count⟩ := hQ
  replace N := N.app Nq
  replace E_a := E_a.keep KK
  replace F_a_body := F_a_body.keep KK (ninS ne_a_t1 nin0)
  replace F_a_unreadableHead := F_a_unreadableHead.keep KK (ninS ne_a_t1 nin0)
  replace F_a_unreadableChunks := F_a_unreadableChunks.keep KK (ninS ne_a_t1 nin0)
  replace F_a_received := F_a_received.keep KK (ninS ne_a_t1 nin0)
  replace O := O.keep KK (allS g_t1 all0)
  replace KP := KP.trans KK (allS (Or.inr s_t1) all0)
  show Go p e below _ (T.setTop (mkF m 13 #[.val (.ref a), .val (.int q)] [(.ref t1), (.ref a)]))
  refine Go.putF C X eT (wd hw 40 rfl) Via.refl F_a_body E_a (Or.inr ⟨(wd hw 41 rfl), rfl, rfl⟩) (wd hw 1 rfl) (ty := (.object "com/example/wirepeek/wirepeek/ui/ShownBytes")) (by decide) rfl rfl d1_13 (n := 16) rfl ?_
  clear X eT
  intro T h X eT W
  replace E_a := E_a.wr W
  replace F_a_body := F_a_body.same W
  replace F_a_unreadableHead := F_a_unreadableHead.other W (Or.inr (slot_ne (Or.inr (wd hw 43 rfl)) (Or.inr (wd hw 41 rfl)) (by decide) (t := (.object "com/example/wirepeek/wirepeek/ui/ShownBytes")) (t' := (.object "com/example/wirepeek/wirepeek/ui/ShownBytes")) (by decide) (by decide)))
  replace F_a_unreadableChunks := F_a_unreadableChunks.other W (Or.inr (slot_ne (Or.inr (wd hw 45 rfl)) (Or.inr (wd hw 41 rfl)) (by decide) (t := (.object "com/example/wirepeek/wirepeek/ui/ShownBytes")) (t' := (.object "com/example/wirepeek/wirepeek/ui/ShownBytes")) (by decide) (by decide)))
  replace F_a_received := F_a_received.other W (Or.inr (slot_ne (Or.inl (wd hw 53 rfl)) (Or.inr (wd hw 41 rfl)) (by decide) (t := .long) (t' := (.object "com/example/wirepeek/wirepeek/ui/ShownBytes")) (by decide) (by decide)))
  replace O := O.wr W g_a
  replace KP := KP.wr W (Or.inl (List.mem_of_getElem? (i := 0) rfl))
  replace E_t1 := E_t1.wr W
  replace F_t1_count := F_t1_count.other W (Or.inl (Ne.symm ne_a_t1))
  replace N := Fr.snoc X N g_a
  refine Go.aloadN C X d1_16 (n := 17) rfl rfl rfl ?_
  refine Go.newO C X eT (wd hw 9 rfl) (wd hw 10 rfl) (wd hw 11 rfl) d1_17 (n := 20) rfl (by decide) (by decide) ?_
  clear X eT
  intro T h t2 z_t2 X eT E E_t2 D_
  have ne_a_t2 : a ≠ t2 := Nat.ne_of_lt (Nat.lt_of_lt_of_le E_a.lt (Nat.le_of_eq z_t2.symm))
  have ne_t1_t2 : t1 ≠ t2 := Nat.ne_of_lt (Nat.lt_of_lt_of_le E_t1.lt (Nat.le_of_eq z_t2.symm))
  have g_t2 : n0 ≤ t2 := by rw [z_t2]; exact O.le
  have s_t2 : h0.size ≤ t2 := by rw [z_t2]; exact KP.1
  replace E_a := E_a.ext E
  replace F_a_body := F_a_body.ext E
  replace F_a_unreadableHead := F_a_unreadableHead.ext E
  replace F_a_unreadableChunks := F_a_unreadableChunks.ext E
  replace F_a_received := F_a_received.ext E
  replace O := O.ext E
  replace KP := KP.ext E
  replace E_t1 := E_t1.ext E
  replace F_t1_count := F_t1_count.ext E
  have F_t2_kept : Fld Z h t2 "com/example/wirepeek/wirepeek/ui/ShownBytes" "kept" "Ljava/io/ByteArrayOutputStream;" .null := D_ (Or.inr (wd hw 37 rfl)) (ty := (.object "java/io/ByteArrayOutputStream")) (by decide)
  have F_t2_limit : Fld Z h t2 "com/example/wirepeek/wirepeek/ui/ShownBytes" "limit" "I" (.int (0 : Int32)) := D_ (Or.inr (wd hw 39 rfl)) (ty := .int) (by decide)
  have F_t2_count : Fld Z h t2 "com/example/wirepeek/wirepeek/ui/ShownBytes" "count" "J" (.long (0 : Int64)) := D_ (Or.inl (wd hw 70 rfl)) (ty := .long) (by decide)
  refine Go.dup C X d1_20 (n := 21) rfl rfl ?_
  refine Go.iloadN C X d1_21 (n := 22) rfl rfl ?_
  refine Go.spec C X eT (argsL := [(.int q)]) (rest := [(.ref t2), (.ref a)]) (a := t2) (rm3 l Z a0 hw n0 _ t2 q g_t2 E_t2 F_t2_kept F_t2_limit F_t2_count O) rfl (wd hw 12 rfl) (wd hw 13 rfl) (wd hw 11 rfl) (wd hw 14 rfl) (by decide) (lenOf pd_1 rfl) rfl d1_22 (n := 25) rfl rfl (by decide) (W := 2) rfl (by decide) (by decide) (by decide) ?_
  clear X eT
  intro T h v L X eT hQ
  obtain ⟨rfl, Nq, KK, E_t2, F_t2_count⟩ := hQ
  replace N := N.app Nq
  replace E_a := E_a.keep KK
  replace F_a_body := F_a_body.keep KK (ninS ne_a_t2 nin0)
  replace F_a_unreadableHead := F_a_unreadableHead.keep KK (ninS ne_a_t2 nin0)
  replace F_a_unreadableChunks := F_a_unreadableChunks.keep KK (ninS ne_a_t2 nin0)
  replace F_a_received := F_a_received.keep KK (ninS ne_a_t2 nin0)
  replace O := O.keep KK (allS g_t2 all0)
  replace KP := KP.trans KK (allS (Or.inr s_t2) all0)
  replace E_t1 := E_t1.keep KK
  replace F_t1_count := F_t1_count.keep KK (ninS ne_t1_t2 nin0)
  show Go p e below _ (T.setTop (mkF m 25 #[.val (.ref a), .val (.int q)] [(.ref t2), (.ref a)]))
  refine Go.putF C X eT (wd hw 42 rfl) Via.refl F_a_unreadableHead E_a (Or.inr ⟨(wd hw 43 rfl), rfl, rfl⟩) (wd hw 1 rfl) (ty := (.object "com/example/wirepeek/wirepeek/ui/ShownBytes")) (by decide) rfl rfl d1_25 (n := 28) rfl ?_
  clear X eT
  intro T h X eT W
  replace E_a := E_a.wr W
  replace F_a_body := F_a_body.other W (Or.inr (slot_ne (Or.inr (wd hw 41 rfl)) (Or.inr (wd hw 43 rfl)) (by decide) (t := (.object "com/example/wirepeek/wirepeek/ui/ShownBytes")) (t' := (.object "com/example/wirepeek/wirepeek/ui/ShownBytes")) (by decide) (by decide)))
  replace F_a_unreadableHead := F_a_unreadableHead.same W
  replace F_a_unreadableChunks := F_a_unreadableChunks.other W (Or.inr (slot_ne (Or.inr (wd hw 45 rfl)) (Or.inr (wd hw 43 rfl)) (by decide) (t := (.object "com/example/wirepeek/wirepeek/ui/ShownBytes")) (t' := (.object "com/example/wirepeek/wirepeek/ui/ShownBytes")) (by decide) (by decide)))
  replace F_a_received := F_a_received.other W (Or.inr (slot_ne (Or.inl (wd hw 53 rfl)) (Or.inr (wd hw 43 rfl)) (by decide) (t := .long) (t' := (.object "com/example/wirepeek/wirepeek/ui/ShownBytes")) (by decide) (by decide)))
  replace O := O.wr W g_a
  replace KP := KP.wr W (Or.inl (List.mem_of_getElem? (i := 0) rfl))
  replace E_t1 := E_t1.wr W
  replace F_t1_count := F_t1_count.other W (Or.inl (Ne.symm ne_a_t1))
  replace E_t2 := E_t2.wr W
  replace F_t2_count := F_t2_count.other W (Or.inl (Ne.symm ne_a_t2))
  replace N := Fr.snoc X N g_a
  refine Go.aloadN C X d1_28 (n := 29) rfl rfl rfl ?_
  refine Go.newO C X eT (wd hw 9 rfl) (wd hw 10 rfl) (wd hw 11 rfl) d1_29 (n := 32) rfl (by decide) (by decide) ?_
  clear X eT
  intro T h t3 z_t3 X eT E E_t3 D_
  have ne_a_t3 : a ≠ t3 := Nat.ne_of_lt (Nat.lt_of_lt_of_le E_a.lt (Nat.le_of_eq z_t3.symm))
  have ne_t1_t3 : t1 ≠ t3 := Nat.ne_of_lt (Nat.lt_of_lt_of_le E_t1.lt (Nat.le_of_eq z_t3.symm))
  have ne_t2_t3 : t2 ≠ t3 := Nat.ne_of_lt (Nat.lt_of_lt_of_le E_t2.lt (Nat.le_of_eq z_t3.symm))
  have g_t3 : n0 ≤ t3 := by rw [z_t3]; exact O.le
  have s_t3 : h0.size ≤ t3 := by rw [z_t3]; exact KP.1
  replace E_a := E_a.ext E
  replace F_a_body := F_a_body.ext E
  replace F_a_unreadableHead := F_a_unreadableHead.ext E
  replace F_a_unreadableChunks := F_a_unreadableChunks.ext E
  replace F_a_received := F_a_received.ext E
  replace O := O.ext E
  replace KP := KP.ext E
  replace E_t1 := E_t1.ext E
  replace F_t1_count := F_t1_count.ext E
  replace E_t2 := E_t2.ext E
  replace F_t2_count := F_t2_count.ext E
  have F_t3_kept : Fld Z h t3 "com/example/wirepeek/wirepeek/ui/ShownBytes" "kept" "Ljava/io/ByteArrayOutputStream;" .null := D_ (Or.inr (wd hw 37 rfl)) (ty := (.object "java/io/ByteArrayOutputStream")) (by decide)
  have F_t3_limit : Fld Z h t3 "com/example/wirepeek/wirepeek/ui/ShownBytes" "limit" "I" (.int (0 : Int32)) := D_ (Or.inr (wd hw 39 rfl)) (ty := .int) (by decide)
  have F_t3_count : Fld Z h t3 "com/example/wirepeek/wirepeek/ui/ShownBytes" "count" "J" (.long (0 : Int64)) := D_ (Or.inl (wd hw 70 rfl)) (ty := .long) (by decide)
  refine Go.dup C X d1_32 (n := 33) rfl rfl ?_
  refine Go.iloadN C X d1_33 (n := 34) rfl rfl ?_
  refine Go.spec C X eT (argsL := [(.int q)]) (rest := [(.ref t3), (.ref a)]) (a := t3) (rm3 l Z a0 hw n0 _ t3 q g_t3 E_t3 F_t3_kept F_t3_limit F_t3_count O) rfl (wd hw 12 rfl) (wd hw 13 rfl) (wd hw 11 rfl) (wd hw 14 rfl) (by decide) (lenOf pd_1 rfl) rfl d1_34 (n := 37) rfl rfl (by decide) (W := 2) rfl (by decide) (by decide) (by decide) ?_
  clear X eT
  intro T h v L X eT hQ
  obtain ⟨rfl, Nq, KK, E_t3, F_t3_count⟩ := hQ
  replace N := N.app Nq
  replace E_a := E_a.keep KK
  replace F_a_body := F_a_body.keep KK (ninS ne_a_t3 nin0)
  replace F_a_unreadableHead := F_a_unreadableHead.keep KK (ninS ne_a_t3 nin0)
  replace F_a_unreadableChunks := F_a_unreadableChunks.keep KK (ninS ne_a_t3 nin0)
  replace F_a_received := F_a_received.keep KK (ninS ne_a_t3 nin0)
  replace O := O.keep KK (allS g_t3 all0)
  replace KP := KP.trans KK (allS (Or.inr s_t3) all0)
  replace E_t1 := E_t1.keep KK
  replace F_t1_count := F_t1_count.keep KK (ninS ne_t1_t3 nin0)
  replace E_t2 := E_t2.keep KK
  replace F_t2_count := F_t2_count.keep KK (ninS ne_t2_t3 nin0)
  show Go p e below _ (T.setTop (mkF m 37 #[.val (.ref a), .val (.int q)] [(.ref t3), (.ref a)]))
  refine Go.putF C X eT (wd hw 44 rfl) Via.refl F_a_unreadableChunks E_a (Or.inr ⟨(wd hw 45 rfl), rfl, rfl⟩) (wd hw 1 rfl) (ty := (.object "com/example/wirepeek/wirepeek/ui/ShownBytes")) (by decide) rfl rfl d1_37 (n := 40) rfl ?_
  clear X eT
  intro T h X eT W
  replace E_a := E_a.wr W
  replace F_a_body := F_a_body.other W (Or.inr (slot_ne (Or.inr (wd hw 41 rfl)) (Or.inr (wd hw 45 rfl)) (by decide) (t := (.object "com/example/wirepeek/wirepeek/ui/ShownBytes")) (t' := (.object "com/example/wirepeek/wirepeek/ui/ShownBytes")) (by decide) (by decide)))
  replace F_a_unreadableHead := F_a_unreadableHead.other W (Or.inr (slot_ne (Or.inr (wd hw 43 rfl)) (Or.inr (wd hw 45 rfl)) (by decide) (t := (.object "com/example/wirepeek/wirepeek/ui/ShownBytes")) (t' := (.object "com/example/wirepeek/wirepeek/ui/ShownBytes")) (by decide) (by decide)))
  replace F_a_unreadableChunks := F_a_unreadableChunks.same W
  replace F_a_received := F_a_received.other W (Or.inr (slot_ne (Or.inl (wd hw 53 rfl)) (Or.inr (wd hw 45 rfl)) (by decide) (t := .long) (t' := (.object "com/example/wirepeek/wirepeek/ui/ShownBytes")) (by decide) (by decide)))
  replace O := O.wr W g_a
  replace KP := KP.wr W (Or.inl (List.mem_of_getElem? (i := 0) rfl))
  replace E_t1 := E_t1.wr W
  replace F_t1_count := F_t1_count.other W (Or.inl (Ne.symm ne_a_t1))
  replace E_t2 := E_t2.wr W
  replace F_t2_count := F_t2_count.other W (Or.inl (Ne.symm ne_a_t2))
  replace E_t3 := E_t3.wr W
  replace F_t3_count := F_t3_count.other W (Or.inl (Ne.symm ne_a_t3))
  replace N := Fr.snoc X N g_a
  refine Go.ret0 C X eT d1_40 (by decide) (by decide) ?_
  exact ⟨rfl, N, KP, E_a, F_a_received, t1, t2, t3, ⟨ne_a_t1, ne_a_t2, ne_a_t3⟩, ⟨F_a_body, F_a_unreadableHead, F_a_unreadableChunks⟩, ⟨E_t1, E_t2, E_t3⟩, F_t1_count, F_t2_count, F_t3_count⟩
theorem d7_0 : decode prog_110_method_6_code 0 = .ok (.aload_n 0, 1) := by decide +kernel
theorem d7_1 : decode prog_110_method_6_code 1 = .ok (.getfield 24, 3) := by decide +kernel
theorem d7_4 : decode prog_110_method_6_code 4 = .ok (.lreturn, 1) := by decide +kernel
set_option maxRecDepth 65536 in
set_option maxHeartbeats 40000000 in
theorem rm7 (l : Launch) (Z : State) (a0 : Array Value) (hw : ∀ d ∈ tables_1, d.before a0 Z = true) (n0 : Nat) (h0 : Heap) (a : Addr) (r : Int64) (F : Fld Z h0 a "com/example/wirepeek/wirepeek/ui/ShownReply" "received" "J" (.long r)) :
    Ctr l Z (⟨"com/example/wirepeek/wirepeek/ui/ShownReply", "received", "()J"⟩ : MethodName) prog_110_method_6_code 1 (some .long) ({ frames := 0, cells := 0, slots := 0, locals := 0 } : Room) #[(.ref a)] h0 (fun v h L => v = some (.long r) ∧ L = [] ∧ h = h0) := by
  refine Ctr.mk (plainFor_of_name pn_3) (ls := #[.val (.ref a)]) (fun m => by first | (simp [entryFrame, mkF, argsToLocals, Value.category]; done) | rfl) ?_
  intro p e s m below meth c T C X eT hs0
  have N := Fr.nil n0
  show Go p e below _ (T.setTop (mkF m 0 #[.val (.ref a)] []))
  refine Go.aloadN C X d7_0 (n := 1) rfl rfl rfl ?_
  refine Go.getF C X eT (wd hw 52 rfl) Via.refl F d7_1 (n := 4) rfl ?_
  clear X eT
  intro T X eT
  refine Go.retJ C X eT d7_4 (by decide) (by decide) ?_
  exact ⟨rfl, rfl, rfl⟩
theorem d10_0 : decode prog_109_method_3_code 0 = .ok (.aload_n 0, 1) := by decide +kernel
theorem d10_1 : decode prog_109_method_3_code 1 = .ok (.getfield 34, 3) := by decide +kernel
theorem d10_4 : decode prog_109_method_3_code 4 = .ok (.lreturn, 1) := by decide +kernel
set_option maxRecDepth 65536 in
set_option maxHeartbeats 40000000 in
theorem rm10 (l : Launch) (Z : State) (a0 : Array Value) (hw : ∀ d ∈ tables_1, d.before a0 Z = true) (n0 : Nat) (h0 : Heap) (a : Addr) (r : Int64) (F : Fld Z h0 a "com/example/wirepeek/wirepeek/ui/ShownBytes" "count" "J" (.long r)) :
    Ctr l Z (⟨"com/example/wirepeek/wirepeek/ui/ShownBytes", "count", "()J"⟩ : MethodName) prog_109_method_3_code 1 (some .long) ({ frames := 0, cells := 0, slots := 0, locals := 0 } : Room) #[(.ref a)] h0 (fun v h L => v = some (.long r) ∧ L = [] ∧ h = h0) := by
  refine Ctr.mk (plainFor_of_name pn_2) (ls := #[.val (.ref a)]) (fun m => by first | (simp [entryFrame, mkF, argsToLocals, Value.category]; done) | rfl) ?_
  intro p e s m below meth c T C X eT hs0
  have N := Fr.nil n0
  show Go p e below _ (T.setTop (mkF m 0 #[.val (.ref a)] []))
  refine Go.aloadN C X d10_0 (n := 1) rfl rfl rfl ?_
  refine Go.getF C X eT (wd hw 69 rfl) Via.refl F d10_1 (n := 4) rfl ?_
  clear X eT
  intro T X eT
  refine Go.retJ C X eT d10_4 (by decide) (by decide) ?_
  exact ⟨rfl, rfl, rfl⟩
theorem d9_0 : decode prog_110_method_7_code 0 = .ok (.aload_n 0, 1) := by decide +kernel
theorem d9_1 : decode prog_110_method_7_code 1 = .ok (.getfield 12, 3) := by decide +kernel
theorem d9_4 : decode prog_110_method_7_code 4 = .ok (.areturn, 1) := by decide +kernel
set_option maxRecDepth 65536 in
set_option maxHeartbeats 40000000 in
theorem rm9 (l : Launch) (Z : State) (a0 : Array Value) (hw : ∀ d ∈ tables_1, d.before a0 Z = true) (n0 : Nat) (h0 : Heap) (a : Addr) (r : Addr) (F : Fld Z h0 a "com/example/wirepeek/wirepeek/ui/ShownReply" "body" "Lcom/example/wirepeek/wirepeek/ui/ShownBytes;" (.ref r)) :
    Ctr l Z (⟨"com/example/wirepeek/wirepeek/ui/ShownReply", "shownBody", "()Lcom/example/wirepeek/wirepeek/ui/ShownBytes;"⟩ : MethodName) prog_110_method_7_code 1 (some (.object "com/example/wirepeek/wirepeek/ui/ShownBytes")) ({ frames := 0, cells := 0, slots := 0, locals := 0 } : Room) #[(.ref a)] h0 (fun v h L => v = some (.ref r) ∧ L = [] ∧ h = h0) := by
  refine Ctr.mk (plainFor_of_name pn_3) (ls := #[.val (.ref a)]) (fun m => by first | (simp [entryFrame, mkF, argsToLocals, Value.category]; done) | rfl) ?_
  intro p e s m below meth c T C X eT hs0
  have N := Fr.nil n0
  show Go p e below _ (T.setTop (mkF m 0 #[.val (.ref a)] []))
  refine Go.aloadN C X d9_0 (n := 1) rfl rfl rfl ?_
  refine Go.getF C X eT (wd hw 40 rfl) Via.refl F d9_1 (n := 4) rfl ?_
  clear X eT
  intro T X eT
  refine Go.retA C X eT rfl rfl rfl d9_4 (by decide) (by decide) ?_
  exact ⟨rfl, rfl, rfl⟩
theorem d11_0 : decode prog_110_method_8_code 0 = .ok (.aload_n 0, 1) := by decide +kernel
theorem d11_1 : decode prog_110_method_8_code 1 = .ok (.getfield 18, 3) := by decide +kernel
theorem d11_4 : decode prog_110_method_8_code 4 = .ok (.areturn, 1) := by decide +kernel
set_option maxRecDepth 65536 in
set_option maxHeartbeats 40000000 in
theorem rm11 (l : Launch) (Z : State) (a0 : Array Value) (hw : ∀ d ∈ tables_1, d.before a0 Z = true) (n0 : Nat) (h0 : Heap) (a : Addr) (r : Addr) (F : Fld Z h0 a "com/example/wirepeek/wirepeek/ui/ShownReply" "unreadableHead" "Lcom/example/wirepeek/wirepeek/ui/ShownBytes;" (.ref r)) :
    Ctr l Z (⟨"com/example/wirepeek/wirepeek/ui/ShownReply", "shownUnreadableHead", "()Lcom/example/wirepeek/wirepeek/ui/ShownBytes;"⟩ : MethodName) prog_110_method_8_code 1 (some (.object "com/example/wirepeek/wirepeek/ui/ShownBytes")) ({ frames := 0, cells := 0, slots := 0, locals := 0 } : Room) #[(.ref a)] h0 (fun v h L => v = some (.ref r) ∧ L = [] ∧ h = h0) := by
  refine Ctr.mk (plainFor_of_name pn_3) (ls := #[.val (.ref a)]) (fun m => by first | (simp [entryFrame, mkF, argsToLocals, Value.category]; done) | rfl) ?_
  intro p e s m below meth c T C X eT hs0
  have N := Fr.nil n0
  show Go p e below _ (T.setTop (mkF m 0 #[.val (.ref a)] []))
  refine Go.aloadN C X d11_0 (n := 1) rfl rfl rfl ?_
  refine Go.getF C X eT (wd hw 42 rfl) Via.refl F d11_1 (n := 4) rfl ?_
  clear X eT
  intro T X eT
  refine Go.retA C X eT rfl rfl rfl d11_4 (by decide) (by decide) ?_
  exact ⟨rfl, rfl, rfl⟩
theorem d12_0 : decode prog_110_method_9_code 0 = .ok (.aload_n 0, 1) := by decide +kernel
theorem d12_1 : decode prog_110_method_9_code 1 = .ok (.getfield 21, 3) := by decide +kernel
theorem d12_4 : decode prog_110_method_9_code 4 = .ok (.areturn, 1) := by decide +kernel
set_option maxRecDepth 65536 in
set_option maxHeartbeats 40000000 in
theorem rm12 (l : Launch) (Z : State) (a0 : Array Value) (hw : ∀ d ∈ tables_1, d.before a0 Z = true) (n0 : Nat) (h0 : Heap) (a : Addr) (r : Addr) (F : Fld Z h0 a "com/example/wirepeek/wirepeek/ui/ShownReply" "unreadableChunks" "Lcom/example/wirepeek/wirepeek/ui/ShownBytes;" (.ref r)) :
    Ctr l Z (⟨"com/example/wirepeek/wirepeek/ui/ShownReply", "shownUnreadableChunks", "()Lcom/example/wirepeek/wirepeek/ui/ShownBytes;"⟩ : MethodName) prog_110_method_9_code 1 (some (.object "com/example/wirepeek/wirepeek/ui/ShownBytes")) ({ frames := 0, cells := 0, slots := 0, locals := 0 } : Room) #[(.ref a)] h0 (fun v h L => v = some (.ref r) ∧ L = [] ∧ h = h0) := by
  refine Ctr.mk (plainFor_of_name pn_3) (ls := #[.val (.ref a)]) (fun m => by first | (simp [entryFrame, mkF, argsToLocals, Value.category]; done) | rfl) ?_
  intro p e s m below meth c T C X eT hs0
  have N := Fr.nil n0
  show Go p e below _ (T.setTop (mkF m 0 #[.val (.ref a)] []))
  refine Go.aloadN C X d12_0 (n := 1) rfl rfl rfl ?_
  refine Go.getF C X eT (wd hw 44 rfl) Via.refl F d12_1 (n := 4) rfl ?_
  clear X eT
  intro T X eT
  refine Go.retA C X eT rfl rfl rfl d12_4 (by decide) (by decide) ?_
  exact ⟨rfl, rfl, rfl⟩
theorem d8_0 : decode prog_110_method_2_code 0 = .ok (.aload_n 0, 1) := by decide +kernel
theorem d8_1 : decode prog_110_method_2_code 1 = .ok (.dup, 1) := by decide +kernel
theorem d8_2 : decode prog_110_method_2_code 2 = .ok (.getfield 24, 3) := by decide +kernel
theorem d8_5 : decode prog_110_method_2_code 5 = .ok (.iload_n 3, 1) := by decide +kernel
theorem d8_6 : decode prog_110_method_2_code 6 = .ok (.i2l, 1) := by decide +kernel
theorem d8_7 : decode prog_110_method_2_code 7 = .ok (.ladd, 1) := by decide +kernel
theorem d8_8 : decode prog_110_method_2_code 8 = .ok (.putfield 24, 3) := by decide +kernel
theorem d8_11 : decode prog_110_method_2_code 11 = .ok (.return_, 1) := by decide +kernel
set_option maxRecDepth 65536 in
set_option maxHeartbeats 40000000 in
theorem rm8 (l : Launch) (Z : State) (a0 : Array Value) (hw : ∀ d ∈ tables_1, d.before a0 Z = true) (n0 : Nat) (h0 : Heap) (a b : Addr) (q z : Int32) (r : Int64) (g_a : n0 ≤ a) (E_a : Exa Z h0 a "com/example/wirepeek/wirepeek/ui/ShownReply") (F_a_received : Fld Z h0 a "com/example/wirepeek/wirepeek/ui/ShownReply" "received" "J" (.long r)) :
    Ctr l Z (⟨"com/example/wirepeek/wirepeek/ui/ShownReply", "wire", "([BII)V"⟩ : MethodName) prog_110_method_2_code 4 none ({ frames := 0, cells := 0, slots := 0, locals := 0 } : Room) #[(.ref a), (.ref b), (.int q), (.int z)] h0 (fun v h L => v = none ∧ Fr n0 L ∧ Wr h0 h a (Jvm.RoadKit.slotOf Z "com/example/wirepeek/wirepeek/ui/ShownReply" "received" "J") (.long (r + z.toInt64))) := by
  refine Ctr.mk (plainFor_of_name pn_3) (ls := #[.val (.ref a), .val (.ref b), .val (.int q), .val (.int z)]) (fun m => by first | (simp [entryFrame, mkF, argsToLocals, Value.category]; done) | rfl) ?_
  intro p e s m below meth c T C X eT hs0
  have N := Fr.nil n0
  show Go p e below _ (T.setTop (mkF m 0 #[.val (.ref a), .val (.ref b), .val (.int q), .val (.int z)] []))
  refine Go.aloadN C X d8_0 (n := 1) rfl rfl rfl ?_
  refine Go.dup C X d8_1 (n := 2) rfl rfl ?_
  refine Go.getF C X eT (wd hw 52 rfl) Via.refl F_a_received d8_2 (n := 5) rfl ?_
  clear X eT
  intro T X eT
  refine Go.iloadN C X d8_5 (n := 6) rfl rfl ?_
  refine Go.i2l C X d8_6 (n := 7) rfl ?_
  refine Go.ladd C X d8_7 (n := 8) rfl ?_
  refine Go.putF C X eT (wd hw 52 rfl) Via.refl F_a_received E_a (Or.inl (wd hw 53 rfl)) (wd hw 1 rfl) (ty := .long) (by decide) rfl rfl d8_8 (n := 11) rfl ?_
  clear X eT
  intro T h X eT W
  replace E_a := E_a.wr W
  replace F_a_received := F_a_received.same W
  replace N := Fr.snoc X N g_a
  refine Go.ret0 C X eT d8_11 (by decide) (by decide) ?_
  exact ⟨rfl, N, W⟩
theorem pd_2 : parseMethodDescriptor "()J" = some ⟨[], some .long⟩ := by decide +kernel
theorem pd_3 : parseMethodDescriptor "([BII)V" = some ⟨[(.array .byte), .int, .int], none⟩ := by decide +kernel
theorem pd_4 : parseMethodDescriptor "()Lcom/example/wirepeek/wirepeek/ui/ShownBytes;" = some ⟨[], some (.object "com/example/wirepeek/wirepeek/ui/ShownBytes")⟩ := by decide +kernel
theorem pn_4 : plainName "com/example/wirepeek/wirepeek/ui/ShownReplyWirePinLaw" = true := by first | (simp [plainName, overriddenIn]; done) | decide +kernel
set_option maxRecDepth 65536 in
set_option maxHeartbeats 40000000 in
theorem rm0 (l : Launch) (Z : State) (a0 : Array Value) (hw : ∀ d ∈ tables_1, d.before a0 Z = true) (n0 : Nat) (h0 : Heap) (p0 p1 p2 p3 : Int32) (O : Old Z n0 h0) :
    Ctr l Z x code maxLocals ret room_1 #[(.int p0), (.int p1), (.int p2), (.int p3)] h0 (fun v h L => v = some (.int 1) ∧ Fr n0 L) := by
  refine Ctr.mk (plainFor_of_name pn_4) (ls := #[.val (.int p0), .val (.int p1), .val (.int p2), .val (.int p3), .unset, .unset, .unset, .unset, .unset, .unset]) (fun m => by first | (simp [entryFrame, mkF, argsToLocals, Value.category, maxLocals]; done) | rfl) ?_
  intro p e s m below meth c T C X eT hs0
  have N := Fr.nil n0
  show Go p e below _ (T.setTop (mkF m 0 #[.val (.int p0), .val (.int p1), .val (.int p2), .val (.int p3), .unset, .unset, .unset, .unset, .unset, .unset] []))
  refine Go.newO C X eT (wd hw 0 rfl) (wd hw 1 rfl) (wd hw 2 rfl) at_0 (n := 3) rfl (by decide) (by decide) ?_
  clear X eT
  intro T h a z_a X eT E E_a D_
  have g_a : n0 ≤ a := by rw [z_a]; exact O.le
  replace O := O.ext E
  have F_a_body : Fld Z h a "com/example/wirepeek/wirepeek/ui/ShownReply" "body" "Lcom/example/wirepeek/wirepeek/ui/ShownBytes;" .null := D_ (Or.inr (wd hw 41 rfl)) (ty := (.object "com/example/wirepeek/wirepeek/ui/ShownBytes")) (by decide)
  have F_a_unreadableHead : Fld Z h a "com/example/wirepeek/wirepeek/ui/ShownReply" "unreadableHead" "Lcom/example/wirepeek/wirepeek/ui/ShownBytes;" .null := D_ (Or.inr (wd hw 43 rfl)) (ty := (.object "com/example/wirepeek/wirepeek/ui/ShownBytes")) (by decide)
  have F_a_unreadableChunks : Fld Z h a "com/example/wirepeek/wirepeek/ui/ShownReply" "unreadableChunks" "Lcom/example/wirepeek/wirepeek/ui/ShownBytes;" .null := D_ (Or.inr (wd hw 45 rfl)) (ty := (.object "com/example/wirepeek/wirepeek/ui/ShownBytes")) (by decide)
  have F_a_received : Fld Z h a "com/example/wirepeek/wirepeek/ui/ShownReply" "received" "J" (.long (0 : Int64)) := D_ (Or.inl (wd hw 53 rfl)) (ty := .long) (by decide)
  refine Go.dup C X at_3 (n := 4) rfl rfl ?_
  refine Go.iloadN C X at_4 (n := 5) rfl rfl ?_
  refine Go.sipush C X at_5 (n := 8) rfl (v := (255 : Int32)) rfl ?_
  refine Go.iand C X at_8 (n := 9) rfl ?_
  refine Go.spec C X eT (argsL := [(.int (p0 &&& (255 : Int32)))]) (rest := [(.ref a)]) (a := a) (rm1 l Z a0 hw n0 _ a (p0 &&& (255 : Int32)) g_a E_a F_a_body F_a_unreadableHead F_a_unreadableChunks F_a_received O) rfl (wd hw 3 rfl) (wd hw 4 rfl) (wd hw 2 rfl) (wd hw 5 rfl) (by decide) (lenOf pd_1 rfl) rfl at_9 (n := 12) rfl rfl (by decide) (W := 1) rfl (by decide) (by decide) (by decide) ?_
  clear X eT
  intro T h v L X eT hQ
  obtain ⟨rfl, Nq, KK, E_a, F_a_received, t1, t2, t3, ⟨ne_a_t1, ne_a_t2, ne_a_t3⟩, ⟨F_a_body, F_a_unreadableHead, F_a_unreadableChunks⟩, ⟨E_t1, E_t2, E_t3⟩, F_t1_count, F_t2_count, F_t3_count⟩ := hQ
  replace N := N.app Nq
  replace O := O.keep KK (allS g_a all0)
  show Go p e below _ (T.setTop (mkF m 12 #[.val (.int p0), .val (.int p1), .val (.int p2), .val (.int p3), .unset, .unset, .unset, .unset, .unset, .unset] [(.ref a)]))
  refine Go.astore C X at_12 (n := 14) rfl rfl (l' := #[.val (.int p0), .val (.int p1), .val (.int p2), .val (.int p3), .val (.ref a), .unset, .unset, .unset, .unset, .unset]) rfl ?_
  refine Go.iconst C X at_14 (n := 15) rfl (v := (4 : Int32)) rfl ?_
  refine Go.newL C X eT (wd hw 33 rfl) (i := 4) rfl (cap := 4) (by decide) at_15 (n := 17) rfl (by decide) (by decide) (by decide) ?_
  clear X eT
  intro T h b z_b X eT E V_b
  have ne_a_b : a ≠ b := Nat.ne_of_lt (Nat.lt_of_lt_of_le E_a.lt (Nat.le_of_eq z_b.symm))
  have ne_t1_b : t1 ≠ b := Nat.ne_of_lt (Nat.lt_of_lt_of_le E_t1.lt (Nat.le_of_eq z_b.symm))
  have ne_t2_b : t2 ≠ b := Nat.ne_of_lt (Nat.lt_of_lt_of_le E_t2.lt (Nat.le_of_eq z_b.symm))
  have ne_t3_b : t3 ≠ b := Nat.ne_of_lt (Nat.lt_of_lt_of_le E_t3.lt (Nat.le_of_eq z_b.symm))
  have g_b : n0 ≤ b := by rw [z_b]; exact O.le
  replace O := O.ext E
  replace E_a := E_a.ext E
  replace F_a_received := F_a_received.ext E
  replace F_a_body := F_a_body.ext E
  replace F_a_unreadableHead := F_a_unreadableHead.ext E
  replace F_a_unreadableChunks := F_a_unreadableChunks.ext E
  replace E_t1 := E_t1.ext E
  replace E_t2 := E_t2.ext E
  replace E_t3 := E_t3.ext E
  replace F_t1_count := F_t1_count.ext E
  replace F_t2_count := F_t2_count.ext E
  replace F_t3_count := F_t3_count.ext E
  refine Go.astore C X at_17 (n := 19) rfl rfl (l' := #[.val (.int p0), .val (.int p1), .val (.int p2), .val (.int p3), .val (.ref a), .val (.ref b), .unset, .unset, .unset, .unset]) rfl ?_
  refine Go.iloadN C X at_19 (n := 20) rfl rfl ?_
  refine Go.ldcI C X (wd hw 46 rfl) at_20 (n := 22) rfl ?_
  refine Go.iand C X at_22 (n := 23) rfl ?_
  refine Go.istore C X at_23 (n := 25) rfl (l' := #[.val (.int p0), .val (.int p1), .val (.int p2), .val (.int p3), .val (.ref a), .val (.ref b), .val (.int (p1 &&& (2147483647 : Int32))), .unset, .unset, .unset]) rfl ?_
  refine Go.iloadN C X at_25 (n := 26) rfl rfl ?_
  refine Go.ldcI C X (wd hw 46 rfl) at_26 (n := 28) rfl ?_
  refine Go.iand C X at_28 (n := 29) rfl ?_
  refine Go.istore C X at_29 (n := 31) rfl (l' := #[.val (.int p0), .val (.int p1), .val (.int p2), .val (.int p3), .val (.ref a), .val (.ref b), .val (.int (p1 &&& (2147483647 : Int32))), .val (.int (p2 &&& (2147483647 : Int32))), .unset, .unset]) rfl ?_
  refine Go.iloadN C X at_31 (n := 32) rfl rfl ?_
  refine Go.ldcI C X (wd hw 46 rfl) at_32 (n := 34) rfl ?_
  refine Go.iand C X at_34 (n := 35) rfl ?_
  refine Go.istore C X at_35 (n := 37) rfl (l' := #[.val (.int p0), .val (.int p1), .val (.int p2), .val (.int p3), .val (.ref a), .val (.ref b), .val (.int (p1 &&& (2147483647 : Int32))), .val (.int (p2 &&& (2147483647 : Int32))), .val (.int (p3 &&& (2147483647 : Int32))), .unset]) rfl ?_
  refine Go.aload C X at_37 (n := 39) rfl rfl rfl ?_
  refine Go.virt C X eT (argsL := []) (rest := []) (a := a) (rm7 l Z a0 hw n0 _ a (0 : Int64) F_a_received) (wd hw 47 rfl) (wd hw 48 rfl) (notFace_of_selects (args := #[]) (mvT C.hZ (wd hw 50 rfl))) (wd hw 50 rfl) (wd hw 49 rfl) (wd hw 2 rfl) (wd hw 51 rfl) (by decide) E_a (lenOf pd_2 rfl) rfl at_39 (n := 42) rfl rfl (by decide) (W := 0) rfl (by decide) (by decide) (by decide) ?_
  clear X eT
  intro T h' v L X eT hQ
  obtain ⟨rfl, rfl, hE⟩ := hQ
  replace hE := hE.symm
  subst hE
  replace N := N.app (Fr.nil n0)
  show Go p e below _ (T.setTop (mkF m 42 #[.val (.int p0), .val (.int p1), .val (.int p2), .val (.int p3), .val (.ref a), .val (.ref b), .val (.int (p1 &&& (2147483647 : Int32))), .val (.int (p2 &&& (2147483647 : Int32))), .val (.int (p3 &&& (2147483647 : Int32))), .unset] [(.long (0 : Int64))]))
  refine Go.lconst C X at_42 (n := 43) rfl (v := (0 : Int64)) rfl ?_
  refine Go.lcmp C X at_43 (n := 44) rfl ?_
  refine Go.lcmp_ne C X at_44 (n1 := 51) (n2 := 47) (by decide) (by decide) rfl (fun hc44 => ?_) (fun hc44 => ?_)
  · exact absurd (by simp) hc44
  · refine Go.iconst C X at_47 (n := 48) rfl (v := (1 : Int32)) rfl ?_
    refine Go.goto C X at_48 (n := 52) (by decide) (by decide) ?_
    refine Go.istore C X at_52 (n := 54) rfl (l' := #[.val (.int p0), .val (.int p1), .val (.int p2), .val (.int p3), .val (.ref a), .val (.ref b), .val (.int (p1 &&& (2147483647 : Int32))), .val (.int (p2 &&& (2147483647 : Int32))), .val (.int (p3 &&& (2147483647 : Int32))), .val (.int (1 : Int32))]) rfl ?_
    refine Go.aload C X at_54 (n := 56) rfl rfl rfl ?_
    refine Go.aload C X at_56 (n := 58) rfl rfl rfl ?_
    refine Go.iconst C X at_58 (n := 59) rfl (v := (0 : Int32)) rfl ?_
    refine Go.iload C X at_59 (n := 61) rfl rfl ?_
    refine Go.virt C X eT (argsL := [(.ref b), (.int (0 : Int32)), (.int (p1 &&& (2147483647 : Int32)))]) (rest := []) (a := a) (rm8 l Z a0 hw n0 _ a b (0 : Int32) (p1 &&& (2147483647 : Int32)) (0 : Int64) g_a E_a F_a_received) (wd hw 54 rfl) (wd hw 55 rfl) (notFace_of_selects (args := #[]) (mvT C.hZ (wd hw 57 rfl))) (wd hw 57 rfl) (wd hw 56 rfl) (wd hw 2 rfl) (wd hw 58 rfl) (by decide) E_a (lenOf pd_3 rfl) rfl at_61 (n := 64) rfl rfl (by decide) (W := 0) rfl (by decide) (by decide) (by decide) ?_
    clear X eT
    intro T h v L X eT hQ
    obtain ⟨rfl, Nq, W⟩ := hQ
    replace N := N.app Nq
    replace O := O.wr W g_a
    replace E_a := E_a.wr W
    replace F_a_received := F_a_received.same W
    replace F_a_body := F_a_body.other W (Or.inr (slot_ne (Or.inr (wd hw 41 rfl)) (Or.inl (wd hw 53 rfl)) (by decide) (t := (.object "com/example/wirepeek/wirepeek/ui/ShownBytes")) (t' := .long) (by decide) (by decide)))
    replace F_a_unreadableHead := F_a_unreadableHead.other W (Or.inr (slot_ne (Or.inr (wd hw 43 rfl)) (Or.inl (wd hw 53 rfl)) (by decide) (t := (.object "com/example/wirepeek/wirepeek/ui/ShownBytes")) (t' := .long) (by decide) (by decide)))
    replace F_a_unreadableChunks := F_a_unreadableChunks.other W (Or.inr (slot_ne (Or.inr (wd hw 45 rfl)) (Or.inl (wd hw 53 rfl)) (by decide) (t := (.object "com/example/wirepeek/wirepeek/ui/ShownBytes")) (t' := .long) (by decide) (by decide)))
    replace E_t1 := E_t1.wr W
    replace E_t2 := E_t2.wr W
    replace E_t3 := E_t3.wr W
    replace F_t1_count := F_t1_count.other W (Or.inl (Ne.symm ne_a_t1))
    replace F_t2_count := F_t2_count.other W (Or.inl (Ne.symm ne_a_t2))
    replace F_t3_count := F_t3_count.other W (Or.inl (Ne.symm ne_a_t3))
    replace V_b := V_b.other W (Ne.symm ne_a_b)
    show Go p e below _ (T.setTop (mkF m 64 #[.val (.int p0), .val (.int p1), .val (.int p2), .val (.int p3), .val (.ref a), .val (.ref b), .val (.int (p1 &&& (2147483647 : Int32))), .val (.int (p2 &&& (2147483647 : Int32))), .val (.int (p3 &&& (2147483647 : Int32))), .val (.int (1 : Int32))] []))
    refine Go.iload C X at_64 (n := 66) rfl rfl ?_
    refine Go.if0_eq C X at_66 (n1 := 85) (n2 := 69) (by decide) (by decide) rfl (fun hc66 => ?_) (fun hc66 => ?_)
    · exact absurd hc66 (by decide)
    · refine Go.aload C X at_69 (n := 71) rfl rfl rfl ?_
      refine Go.virt C X eT (argsL := []) (rest := []) (a := a) (rm7 l Z a0 hw n0 _ a ((0 : Int64) + (p1 &&& (2147483647 : Int32)).toInt64) F_a_received) (wd hw 47 rfl) (wd hw 48 rfl) (notFace_of_selects (args := #[]) (mvT C.hZ (wd hw 50 rfl))) (wd hw 50 rfl) (wd hw 49 rfl) (wd hw 2 rfl) (wd hw 51 rfl) (by decide) E_a (lenOf pd_2 rfl) rfl at_71 (n := 74) rfl rfl (by decide) (W := 0) rfl (by decide) (by decide) (by decide) ?_
      clear X eT
      intro T h' v L X eT hQ
      obtain ⟨rfl, rfl, hE⟩ := hQ
      replace hE := hE.symm
      subst hE
      replace N := N.app (Fr.nil n0)
      show Go p e below _ (T.setTop (mkF m 74 #[.val (.int p0), .val (.int p1), .val (.int p2), .val (.int p3), .val (.ref a), .val (.ref b), .val (.int (p1 &&& (2147483647 : Int32))), .val (.int (p2 &&& (2147483647 : Int32))), .val (.int (p3 &&& (2147483647 : Int32))), .val (.int (1 : Int32))] [(.long ((0 : Int64) + (p1 &&& (2147483647 : Int32)).toInt64))]))
      refine Go.iload C X at_74 (n := 76) rfl rfl ?_
      refine Go.i2l C X at_76 (n := 77) rfl ?_
      refine Go.lcmp C X at_77 (n := 78) rfl ?_
      refine Go.lcmp_ne C X at_78 (n1 := 85) (n2 := 81) (by decide) (by decide) rfl (fun hc78 => ?_) (fun hc78 => ?_)
      · exact absurd (by simp) hc78
      · refine Go.iconst C X at_81 (n := 82) rfl (v := (1 : Int32)) rfl ?_
        refine Go.goto C X at_82 (n := 86) (by decide) (by decide) ?_
        refine Go.istore C X at_86 (n := 88) rfl (l' := #[.val (.int p0), .val (.int p1), .val (.int p2), .val (.int p3), .val (.ref a), .val (.ref b), .val (.int (p1 &&& (2147483647 : Int32))), .val (.int (p2 &&& (2147483647 : Int32))), .val (.int (p3 &&& (2147483647 : Int32))), .val (.int (1 : Int32))]) rfl ?_
        refine Go.aload C X at_88 (n := 90) rfl rfl rfl ?_
        refine Go.aload C X at_90 (n := 92) rfl rfl rfl ?_
        refine Go.iconst C X at_92 (n := 93) rfl (v := (0 : Int32)) rfl ?_
        refine Go.iload C X at_93 (n := 95) rfl rfl ?_
        refine Go.virt C X eT (argsL := [(.ref b), (.int (0 : Int32)), (.int (p2 &&& (2147483647 : Int32)))]) (rest := []) (a := a) (rm8 l Z a0 hw n0 _ a b (0 : Int32) (p2 &&& (2147483647 : Int32)) ((0 : Int64) + (p1 &&& (2147483647 : Int32)).toInt64) g_a E_a F_a_received) (wd hw 54 rfl) (wd hw 55 rfl) (notFace_of_selects (args := #[]) (mvT C.hZ (wd hw 57 rfl))) (wd hw 57 rfl) (wd hw 56 rfl) (wd hw 2 rfl) (wd hw 58 rfl) (by decide) E_a (lenOf pd_3 rfl) rfl at_95 (n := 98) rfl rfl (by decide) (W := 0) rfl (by decide) (by decide) (by decide) ?_
        clear X eT
        intro T h v L X eT hQ
        obtain ⟨rfl, Nq, W⟩ := hQ
        replace N := N.app Nq
        replace O := O.wr W g_a
        replace E_a := E_a.wr W
        replace F_a_received := F_a_received.same W
        replace F_a_body := F_a_body.other W (Or.inr (slot_ne (Or.inr (wd hw 41 rfl)) (Or.inl (wd hw 53 rfl)) (by decide) (t := (.object "com/example/wirepeek/wirepeek/ui/ShownBytes")) (t' := .long) (by decide) (by decide)))
        replace F_a_unreadableHead := F_a_unreadableHead.other W (Or.inr (slot_ne (Or.inr (wd hw 43 rfl)) (Or.inl (wd hw 53 rfl)) (by decide) (t := (.object "com/example/wirepeek/wirepeek/ui/ShownBytes")) (t' := .long) (by decide) (by decide)))
        replace F_a_unreadableChunks := F_a_unreadableChunks.other W (Or.inr (slot_ne (Or.inr (wd hw 45 rfl)) (Or.inl (wd hw 53 rfl)) (by decide) (t := (.object "com/example/wirepeek/wirepeek/ui/ShownBytes")) (t' := .long) (by decide) (by decide)))
        replace E_t1 := E_t1.wr W
        replace E_t2 := E_t2.wr W
        replace E_t3 := E_t3.wr W
        replace F_t1_count := F_t1_count.other W (Or.inl (Ne.symm ne_a_t1))
        replace F_t2_count := F_t2_count.other W (Or.inl (Ne.symm ne_a_t2))
        replace F_t3_count := F_t3_count.other W (Or.inl (Ne.symm ne_a_t3))
        replace V_b := V_b.other W (Ne.symm ne_a_b)
        show Go p e below _ (T.setTop (mkF m 98 #[.val (.int p0), .val (.int p1), .val (.int p2), .val (.int p3), .val (.ref a), .val (.ref b), .val (.int (p1 &&& (2147483647 : Int32))), .val (.int (p2 &&& (2147483647 : Int32))), .val (.int (p3 &&& (2147483647 : Int32))), .val (.int (1 : Int32))] []))
        refine Go.iload C X at_98 (n := 100) rfl rfl ?_
        refine Go.if0_eq C X at_100 (n1 := 123) (n2 := 103) (by decide) (by decide) rfl (fun hc100 => ?_) (fun hc100 => ?_)
        · exact absurd hc100 (by decide)
        · refine Go.aload C X at_103 (n := 105) rfl rfl rfl ?_
          refine Go.virt C X eT (argsL := []) (rest := []) (a := a) (rm7 l Z a0 hw n0 _ a (((0 : Int64) + (p1 &&& (2147483647 : Int32)).toInt64) + (p2 &&& (2147483647 : Int32)).toInt64) F_a_received) (wd hw 47 rfl) (wd hw 48 rfl) (notFace_of_selects (args := #[]) (mvT C.hZ (wd hw 50 rfl))) (wd hw 50 rfl) (wd hw 49 rfl) (wd hw 2 rfl) (wd hw 51 rfl) (by decide) E_a (lenOf pd_2 rfl) rfl at_105 (n := 108) rfl rfl (by decide) (W := 0) rfl (by decide) (by decide) (by decide) ?_
          clear X eT
          intro T h' v L X eT hQ
          obtain ⟨rfl, rfl, hE⟩ := hQ
          replace hE := hE.symm
          subst hE
          replace N := N.app (Fr.nil n0)
          show Go p e below _ (T.setTop (mkF m 108 #[.val (.int p0), .val (.int p1), .val (.int p2), .val (.int p3), .val (.ref a), .val (.ref b), .val (.int (p1 &&& (2147483647 : Int32))), .val (.int (p2 &&& (2147483647 : Int32))), .val (.int (p3 &&& (2147483647 : Int32))), .val (.int (1 : Int32))] [(.long (((0 : Int64) + (p1 &&& (2147483647 : Int32)).toInt64) + (p2 &&& (2147483647 : Int32)).toInt64))]))
          refine Go.iload C X at_108 (n := 110) rfl rfl ?_
          refine Go.i2l C X at_110 (n := 111) rfl ?_
          refine Go.iload C X at_111 (n := 113) rfl rfl ?_
          refine Go.i2l C X at_113 (n := 114) rfl ?_
          refine Go.ladd C X at_114 (n := 115) rfl ?_
          refine Go.lcmp C X at_115 (n := 116) rfl ?_
          refine Go.lcmp_ne C X at_116 (n1 := 123) (n2 := 119) (by decide) (by decide) rfl (fun hc116 => ?_) (fun hc116 => ?_)
          · exact absurd (by simp) hc116
          · refine Go.iconst C X at_119 (n := 120) rfl (v := (1 : Int32)) rfl ?_
            refine Go.goto C X at_120 (n := 124) (by decide) (by decide) ?_
            refine Go.istore C X at_124 (n := 126) rfl (l' := #[.val (.int p0), .val (.int p1), .val (.int p2), .val (.int p3), .val (.ref a), .val (.ref b), .val (.int (p1 &&& (2147483647 : Int32))), .val (.int (p2 &&& (2147483647 : Int32))), .val (.int (p3 &&& (2147483647 : Int32))), .val (.int (1 : Int32))]) rfl ?_
            refine Go.aload C X at_126 (n := 128) rfl rfl rfl ?_
            refine Go.aload C X at_128 (n := 130) rfl rfl rfl ?_
            refine Go.iconst C X at_130 (n := 131) rfl (v := (0 : Int32)) rfl ?_
            refine Go.iload C X at_131 (n := 133) rfl rfl ?_
            refine Go.virt C X eT (argsL := [(.ref b), (.int (0 : Int32)), (.int (p3 &&& (2147483647 : Int32)))]) (rest := []) (a := a) (rm8 l Z a0 hw n0 _ a b (0 : Int32) (p3 &&& (2147483647 : Int32)) (((0 : Int64) + (p1 &&& (2147483647 : Int32)).toInt64) + (p2 &&& (2147483647 : Int32)).toInt64) g_a E_a F_a_received) (wd hw 54 rfl) (wd hw 55 rfl) (notFace_of_selects (args := #[]) (mvT C.hZ (wd hw 57 rfl))) (wd hw 57 rfl) (wd hw 56 rfl) (wd hw 2 rfl) (wd hw 58 rfl) (by decide) E_a (lenOf pd_3 rfl) rfl at_133 (n := 136) rfl rfl (by decide) (W := 0) rfl (by decide) (by decide) (by decide) ?_
            clear X eT
            intro T h v L X eT hQ
            obtain ⟨rfl, Nq, W⟩ := hQ
            replace N := N.app Nq
            replace O := O.wr W g_a
            replace E_a := E_a.wr W
            replace F_a_received := F_a_received.same W
            replace F_a_body := F_a_body.other W (Or.inr (slot_ne (Or.inr (wd hw 41 rfl)) (Or.inl (wd hw 53 rfl)) (by decide) (t := (.object "com/example/wirepeek/wirepeek/ui/ShownBytes")) (t' := .long) (by decide) (by decide)))
            replace F_a_unreadableHead := F_a_unreadableHead.other W (Or.inr (slot_ne (Or.inr (wd hw 43 rfl)) (Or.inl (wd hw 53 rfl)) (by decide) (t := (.object "com/example/wirepeek/wirepeek/ui/ShownBytes")) (t' := .long) (by decide) (by decide)))
            replace F_a_unreadableChunks := F_a_unreadableChunks.other W (Or.inr (slot_ne (Or.inr (wd hw 45 rfl)) (Or.inl (wd hw 53 rfl)) (by decide) (t := (.object "com/example/wirepeek/wirepeek/ui/ShownBytes")) (t' := .long) (by decide) (by decide)))
            replace E_t1 := E_t1.wr W
            replace E_t2 := E_t2.wr W
            replace E_t3 := E_t3.wr W
            replace F_t1_count := F_t1_count.other W (Or.inl (Ne.symm ne_a_t1))
            replace F_t2_count := F_t2_count.other W (Or.inl (Ne.symm ne_a_t2))
            replace F_t3_count := F_t3_count.other W (Or.inl (Ne.symm ne_a_t3))
            replace V_b := V_b.other W (Ne.symm ne_a_b)
            show Go p e below _ (T.setTop (mkF m 136 #[.val (.int p0), .val (.int p1), .val (.int p2), .val (.int p3), .val (.ref a), .val (.ref b), .val (.int (p1 &&& (2147483647 : Int32))), .val (.int (p2 &&& (2147483647 : Int32))), .val (.int (p3 &&& (2147483647 : Int32))), .val (.int (1 : Int32))] []))
            refine Go.iload C X at_136 (n := 138) rfl rfl ?_
            refine Go.if0_eq C X at_138 (n1 := 165) (n2 := 141) (by decide) (by decide) rfl (fun hc138 => ?_) (fun hc138 => ?_)
            · exact absurd hc138 (by decide)
            · refine Go.aload C X at_141 (n := 143) rfl rfl rfl ?_
              refine Go.virt C X eT (argsL := []) (rest := []) (a := a) (rm7 l Z a0 hw n0 _ a ((((0 : Int64) + (p1 &&& (2147483647 : Int32)).toInt64) + (p2 &&& (2147483647 : Int32)).toInt64) + (p3 &&& (2147483647 : Int32)).toInt64) F_a_received) (wd hw 47 rfl) (wd hw 48 rfl) (notFace_of_selects (args := #[]) (mvT C.hZ (wd hw 50 rfl))) (wd hw 50 rfl) (wd hw 49 rfl) (wd hw 2 rfl) (wd hw 51 rfl) (by decide) E_a (lenOf pd_2 rfl) rfl at_143 (n := 146) rfl rfl (by decide) (W := 0) rfl (by decide) (by decide) (by decide) ?_
              clear X eT
              intro T h' v L X eT hQ
              obtain ⟨rfl, rfl, hE⟩ := hQ
              replace hE := hE.symm
              subst hE
              replace N := N.app (Fr.nil n0)
              show Go p e below _ (T.setTop (mkF m 146 #[.val (.int p0), .val (.int p1), .val (.int p2), .val (.int p3), .val (.ref a), .val (.ref b), .val (.int (p1 &&& (2147483647 : Int32))), .val (.int (p2 &&& (2147483647 : Int32))), .val (.int (p3 &&& (2147483647 : Int32))), .val (.int (1 : Int32))] [(.long ((((0 : Int64) + (p1 &&& (2147483647 : Int32)).toInt64) + (p2 &&& (2147483647 : Int32)).toInt64) + (p3 &&& (2147483647 : Int32)).toInt64))]))
              refine Go.iload C X at_146 (n := 148) rfl rfl ?_
              refine Go.i2l C X at_148 (n := 149) rfl ?_
              refine Go.iload C X at_149 (n := 151) rfl rfl ?_
              refine Go.i2l C X at_151 (n := 152) rfl ?_
              refine Go.ladd C X at_152 (n := 153) rfl ?_
              refine Go.iload C X at_153 (n := 155) rfl rfl ?_
              refine Go.i2l C X at_155 (n := 156) rfl ?_
              refine Go.ladd C X at_156 (n := 157) rfl ?_
              refine Go.lcmp C X at_157 (n := 158) rfl ?_
              refine Go.lcmp_ne C X at_158 (n1 := 165) (n2 := 161) (by decide) (by decide) rfl (fun hc158 => ?_) (fun hc158 => ?_)
              · exact absurd (by simp) hc158
              · refine Go.iconst C X at_161 (n := 162) rfl (v := (1 : Int32)) rfl ?_
                refine Go.goto C X at_162 (n := 166) (by decide) (by decide) ?_
                refine Go.istore C X at_166 (n := 168) rfl (l' := #[.val (.int p0), .val (.int p1), .val (.int p2), .val (.int p3), .val (.ref a), .val (.ref b), .val (.int (p1 &&& (2147483647 : Int32))), .val (.int (p2 &&& (2147483647 : Int32))), .val (.int (p3 &&& (2147483647 : Int32))), .val (.int (1 : Int32))]) rfl ?_
                refine Go.iload C X at_168 (n := 170) rfl rfl ?_
                refine Go.if0_eq C X at_170 (n1 := 190) (n2 := 173) (by decide) (by decide) rfl (fun hc170 => ?_) (fun hc170 => ?_)
                · exact absurd hc170 (by decide)
                · refine Go.aload C X at_173 (n := 175) rfl rfl rfl ?_
                  refine Go.virt C X eT (argsL := []) (rest := []) (a := a) (rm9 l Z a0 hw n0 _ a t1 F_a_body) (wd hw 59 rfl) (wd hw 60 rfl) (notFace_of_selects (args := #[]) (mvT C.hZ (wd hw 62 rfl))) (wd hw 62 rfl) (wd hw 61 rfl) (wd hw 2 rfl) (wd hw 63 rfl) (by decide) E_a (lenOf pd_4 rfl) rfl at_175 (n := 178) rfl rfl (by decide) (W := 0) rfl (by decide) (by decide) (by decide) ?_
                  clear X eT
                  intro T h' v L X eT hQ
                  obtain ⟨rfl, rfl, hE⟩ := hQ
                  replace hE := hE.symm
                  subst hE
                  replace N := N.app (Fr.nil n0)
                  show Go p e below _ (T.setTop (mkF m 178 #[.val (.int p0), .val (.int p1), .val (.int p2), .val (.int p3), .val (.ref a), .val (.ref b), .val (.int (p1 &&& (2147483647 : Int32))), .val (.int (p2 &&& (2147483647 : Int32))), .val (.int (p3 &&& (2147483647 : Int32))), .val (.int (1 : Int32))] [(.ref t1)]))
                  refine Go.virt C X eT (argsL := []) (rest := []) (a := t1) (rm10 l Z a0 hw n0 _ t1 (0 : Int64) F_t1_count) (wd hw 64 rfl) (wd hw 65 rfl) (notFace_of_selects (args := #[]) (mvT C.hZ (wd hw 67 rfl))) (wd hw 67 rfl) (wd hw 66 rfl) (wd hw 11 rfl) (wd hw 68 rfl) (by decide) E_t1 (lenOf pd_2 rfl) rfl at_178 (n := 181) rfl rfl (by decide) (W := 0) rfl (by decide) (by decide) (by decide) ?_
                  clear X eT
                  intro T h' v L X eT hQ
                  obtain ⟨rfl, rfl, hE⟩ := hQ
                  replace hE := hE.symm
                  subst hE
                  replace N := N.app (Fr.nil n0)
                  show Go p e below _ (T.setTop (mkF m 181 #[.val (.int p0), .val (.int p1), .val (.int p2), .val (.int p3), .val (.ref a), .val (.ref b), .val (.int (p1 &&& (2147483647 : Int32))), .val (.int (p2 &&& (2147483647 : Int32))), .val (.int (p3 &&& (2147483647 : Int32))), .val (.int (1 : Int32))] [(.long (0 : Int64))]))
                  refine Go.lconst C X at_181 (n := 182) rfl (v := (0 : Int64)) rfl ?_
                  refine Go.lcmp C X at_182 (n := 183) rfl ?_
                  refine Go.lcmp_ne C X at_183 (n1 := 190) (n2 := 186) (by decide) (by decide) rfl (fun hc183 => ?_) (fun hc183 => ?_)
                  · exact absurd (by simp) hc183
                  · refine Go.iconst C X at_186 (n := 187) rfl (v := (1 : Int32)) rfl ?_
                    refine Go.goto C X at_187 (n := 191) (by decide) (by decide) ?_
                    refine Go.istore C X at_191 (n := 193) rfl (l' := #[.val (.int p0), .val (.int p1), .val (.int p2), .val (.int p3), .val (.ref a), .val (.ref b), .val (.int (p1 &&& (2147483647 : Int32))), .val (.int (p2 &&& (2147483647 : Int32))), .val (.int (p3 &&& (2147483647 : Int32))), .val (.int (1 : Int32))]) rfl ?_
                    refine Go.iload C X at_193 (n := 195) rfl rfl ?_
                    refine Go.if0_eq C X at_195 (n1 := 215) (n2 := 198) (by decide) (by decide) rfl (fun hc195 => ?_) (fun hc195 => ?_)
                    · exact absurd hc195 (by decide)
                    · refine Go.aload C X at_198 (n := 200) rfl rfl rfl ?_
                      refine Go.virt C X eT (argsL := []) (rest := []) (a := a) (rm11 l Z a0 hw n0 _ a t2 F_a_unreadableHead) (wd hw 71 rfl) (wd hw 72 rfl) (notFace_of_selects (args := #[]) (mvT C.hZ (wd hw 74 rfl))) (wd hw 74 rfl) (wd hw 73 rfl) (wd hw 2 rfl) (wd hw 75 rfl) (by decide) E_a (lenOf pd_4 rfl) rfl at_200 (n := 203) rfl rfl (by decide) (W := 0) rfl (by decide) (by decide) (by decide) ?_
                      clear X eT
                      intro T h' v L X eT hQ
                      obtain ⟨rfl, rfl, hE⟩ := hQ
                      replace hE := hE.symm
                      subst hE
                      replace N := N.app (Fr.nil n0)
                      show Go p e below _ (T.setTop (mkF m 203 #[.val (.int p0), .val (.int p1), .val (.int p2), .val (.int p3), .val (.ref a), .val (.ref b), .val (.int (p1 &&& (2147483647 : Int32))), .val (.int (p2 &&& (2147483647 : Int32))), .val (.int (p3 &&& (2147483647 : Int32))), .val (.int (1 : Int32))] [(.ref t2)]))
                      refine Go.virt C X eT (argsL := []) (rest := []) (a := t2) (rm10 l Z a0 hw n0 _ t2 (0 : Int64) F_t2_count) (wd hw 64 rfl) (wd hw 65 rfl) (notFace_of_selects (args := #[]) (mvT C.hZ (wd hw 67 rfl))) (wd hw 67 rfl) (wd hw 66 rfl) (wd hw 11 rfl) (wd hw 68 rfl) (by decide) E_t2 (lenOf pd_2 rfl) rfl at_203 (n := 206) rfl rfl (by decide) (W := 0) rfl (by decide) (by decide) (by decide) ?_
                      clear X eT
                      intro T h' v L X eT hQ
                      obtain ⟨rfl, rfl, hE⟩ := hQ
                      replace hE := hE.symm
                      subst hE
                      replace N := N.app (Fr.nil n0)
                      show Go p e below _ (T.setTop (mkF m 206 #[.val (.int p0), .val (.int p1), .val (.int p2), .val (.int p3), .val (.ref a), .val (.ref b), .val (.int (p1 &&& (2147483647 : Int32))), .val (.int (p2 &&& (2147483647 : Int32))), .val (.int (p3 &&& (2147483647 : Int32))), .val (.int (1 : Int32))] [(.long (0 : Int64))]))
                      refine Go.lconst C X at_206 (n := 207) rfl (v := (0 : Int64)) rfl ?_
                      refine Go.lcmp C X at_207 (n := 208) rfl ?_
                      refine Go.lcmp_ne C X at_208 (n1 := 215) (n2 := 211) (by decide) (by decide) rfl (fun hc208 => ?_) (fun hc208 => ?_)
                      · exact absurd (by simp) hc208
                      · refine Go.iconst C X at_211 (n := 212) rfl (v := (1 : Int32)) rfl ?_
                        refine Go.goto C X at_212 (n := 216) (by decide) (by decide) ?_
                        refine Go.istore C X at_216 (n := 218) rfl (l' := #[.val (.int p0), .val (.int p1), .val (.int p2), .val (.int p3), .val (.ref a), .val (.ref b), .val (.int (p1 &&& (2147483647 : Int32))), .val (.int (p2 &&& (2147483647 : Int32))), .val (.int (p3 &&& (2147483647 : Int32))), .val (.int (1 : Int32))]) rfl ?_
                        refine Go.iload C X at_218 (n := 220) rfl rfl ?_
                        refine Go.if0_eq C X at_220 (n1 := 240) (n2 := 223) (by decide) (by decide) rfl (fun hc220 => ?_) (fun hc220 => ?_)
                        · exact absurd hc220 (by decide)
                        · refine Go.aload C X at_223 (n := 225) rfl rfl rfl ?_
                          refine Go.virt C X eT (argsL := []) (rest := []) (a := a) (rm12 l Z a0 hw n0 _ a t3 F_a_unreadableChunks) (wd hw 76 rfl) (wd hw 77 rfl) (notFace_of_selects (args := #[]) (mvT C.hZ (wd hw 79 rfl))) (wd hw 79 rfl) (wd hw 78 rfl) (wd hw 2 rfl) (wd hw 80 rfl) (by decide) E_a (lenOf pd_4 rfl) rfl at_225 (n := 228) rfl rfl (by decide) (W := 0) rfl (by decide) (by decide) (by decide) ?_
                          clear X eT
                          intro T h' v L X eT hQ
                          obtain ⟨rfl, rfl, hE⟩ := hQ
                          replace hE := hE.symm
                          subst hE
                          replace N := N.app (Fr.nil n0)
                          show Go p e below _ (T.setTop (mkF m 228 #[.val (.int p0), .val (.int p1), .val (.int p2), .val (.int p3), .val (.ref a), .val (.ref b), .val (.int (p1 &&& (2147483647 : Int32))), .val (.int (p2 &&& (2147483647 : Int32))), .val (.int (p3 &&& (2147483647 : Int32))), .val (.int (1 : Int32))] [(.ref t3)]))
                          refine Go.virt C X eT (argsL := []) (rest := []) (a := t3) (rm10 l Z a0 hw n0 _ t3 (0 : Int64) F_t3_count) (wd hw 64 rfl) (wd hw 65 rfl) (notFace_of_selects (args := #[]) (mvT C.hZ (wd hw 67 rfl))) (wd hw 67 rfl) (wd hw 66 rfl) (wd hw 11 rfl) (wd hw 68 rfl) (by decide) E_t3 (lenOf pd_2 rfl) rfl at_228 (n := 231) rfl rfl (by decide) (W := 0) rfl (by decide) (by decide) (by decide) ?_
                          clear X eT
                          intro T h' v L X eT hQ
                          obtain ⟨rfl, rfl, hE⟩ := hQ
                          replace hE := hE.symm
                          subst hE
                          replace N := N.app (Fr.nil n0)
                          show Go p e below _ (T.setTop (mkF m 231 #[.val (.int p0), .val (.int p1), .val (.int p2), .val (.int p3), .val (.ref a), .val (.ref b), .val (.int (p1 &&& (2147483647 : Int32))), .val (.int (p2 &&& (2147483647 : Int32))), .val (.int (p3 &&& (2147483647 : Int32))), .val (.int (1 : Int32))] [(.long (0 : Int64))]))
                          refine Go.lconst C X at_231 (n := 232) rfl (v := (0 : Int64)) rfl ?_
                          refine Go.lcmp C X at_232 (n := 233) rfl ?_
                          refine Go.lcmp_ne C X at_233 (n1 := 240) (n2 := 236) (by decide) (by decide) rfl (fun hc233 => ?_) (fun hc233 => ?_)
                          · exact absurd (by simp) hc233
                          · refine Go.iconst C X at_236 (n := 237) rfl (v := (1 : Int32)) rfl ?_
                            refine Go.goto C X at_237 (n := 241) (by decide) (by decide) ?_
                            refine Go.istore C X at_241 (n := 243) rfl (l' := #[.val (.int p0), .val (.int p1), .val (.int p2), .val (.int p3), .val (.ref a), .val (.ref b), .val (.int (p1 &&& (2147483647 : Int32))), .val (.int (p2 &&& (2147483647 : Int32))), .val (.int (p3 &&& (2147483647 : Int32))), .val (.int (1 : Int32))]) rfl ?_
                            refine Go.iload C X at_243 (n := 245) rfl rfl ?_
                            refine Go.retN C X eT (Or.inl rfl) (w := (1 : Int32)) (by decide) at_245 (by decide) (by decide) ?_
                            exact ⟨rfl, N⟩
set_option maxRecDepth 65536 in
set_option maxHeartbeats 40000000 in
theorem comes_1 {Post : Tables → Env → Array Value → State → Outcome → State → Prop} (hpost : ∀ tb e args s v u, (limb_1_1.after args s (.returned v) u = true ∧ limb_1_2.after args s (.returned v) u = true ∧ True) → FrameEnd s (.returned v) u (Jvm.fieldLocs frame_1_writes args s ++ Jvm.arrayLocs frame_1_arrays args s ++ Jvm.staticLocs frame_1_statics s) 32 320 → Post tb e args s (.returned v) u) :
    ArmFor flags0 classFile x code maxLocals ret World_1 tables_1 room_1 Calls_1 rest_1 Pre_1 Post := by
  intro l hfl _ _ p e ha hc hk s m args below hf hA hF happ hP
  obtain ⟨hcalls, hrest, hpre⟩ := hP
  obtain ⟨-, -, -, hnamed, -, -, -, hat⟩ := (Spec.applies_iff hf).mp happ
  obtain ⟨hg, hn⟩ := and_e (Cond.before_iff.mp (show (Jvm.Cond.and given_1 narrow_1).before args s = true from hpre))
  obtain ⟨hcnt, hq0⟩ := and_e hg
  obtain ⟨w0, w1, w2, w3, rfl⟩ : ∃ w0 w1 w2 w3 : Value, args = #[w0, w1, w2, w3] := by
    have hs : args.size = 4 := by simpa [Cond.value, given_1] using hcnt
    obtain ⟨L⟩ := args
    match L, hs with
    | [w0, w1, w2, w3], _ => exact ⟨w0, w1, w2, w3, rfl⟩
  have hw := fun d (hd : d ∈ tables_1) => atoms_spec (ws := Jvm.Cond.code x code maxLocals ret :: tables_1) hat d (List.mem_cons_of_mem _ hd)
  have hfit : Fit s := fun {y c} hc i hi => by
    obtain ⟨ha, rfl⟩ := Array.getElem?_eq_some_iff.mp hc
    have q := List.all_eq_true.mp ((Array.all_eq_true_iff_forall_mem.mp hF) _ (Array.getElem_mem ha)) i (List.mem_range.mpr hi)
    simpa [Array.getElem?_eq_getElem hi] using q
  obtain ⟨ha0, hq1⟩ := and_e hq0
  obtain ⟨i0, e0⟩ := is_v ha0
  obtain rfl : w0 = (.int i0) := Option.some.inj e0
  obtain ⟨ha1, hq2⟩ := and_e hq1
  obtain ⟨i1, e1⟩ := is_v ha1
  obtain rfl : w1 = (.int i1) := Option.some.inj e1
  obtain ⟨ha2, hq3⟩ := and_e hq2
  obtain ⟨i2, e2⟩ := is_v ha2
  obtain rfl : w2 = (.int i2) := Option.some.inj e2
  obtain ⟨i3, e3⟩ := is_v hq3
  obtain rfl : w3 = (.int i3) := Option.some.inj e3
  obtain ⟨n, o, g1, g2, g3, _, L, rfl, ⟨rfl, N⟩, hq⟩ := rm0 l s _ hw s.heap.size s.heap i0 i1 i2 i3 (Old.start s) tables_1 p e ha hc hk s m _ below hf ((Spec.applies_iff_loose hf).mp happ).1 ⟨rfl, State.Warmed39.refl s, rfl⟩ trivial
  refine ⟨n, _, g1, g2, g3, hpost _ _ _ _ _ _ ⟨Cond.after_iff.mpr rfl, Cond.after_iff.mpr (eq_i res_at (Term.int_eval (1)) rfl), trivial⟩ ⟨hq.1, hq.2.1, (hq.2.2.sift fun y hy => Or.inr (N y hy)).mono (by decide) (by decide)⟩⟩
theorem main_1_1 : Claimed_1_1 := comes_1 fun _ _ _ _ _ _ h hF => ⟨h.1, hF⟩
theorem main_1_2 : Claimed_1_2 := comes_1 fun _ _ _ _ _ _ h hF => ⟨h.2.1, hF⟩

end Jvm.Pilot.@@N@@
namespace Jvm.Pilot.@@N@@
open Jvm Jvm.ClassFile Sem Op Lib Jvm.Free Jvm.Stand Jvm.Pilot.@@N@@.Jvm.D
/-! MADE BY PROGRAM (witnessworld.py) out of the Statement's table words and the real class files: 16 classes; the members and pool entries that the words name. The judged class is class 1, her method 1. -/
namespace start1
open Jvm.ClassFile
def u (s : String) : CpInfo := .utf8 (stringToUtf16 s)
/-- a pool by its gaps: so many unusable entries, then the entry; so many at the end -/
def gap : Nat → List CpInfo → List CpInfo
  | 0, r => r
  | n + 1, r => .unusable :: gap n r
def poolList (es : List (Nat × CpInfo)) (last : Nat) : List CpInfo := es.foldr (fun e r => gap e.1 (e.2 :: r)) (gap last [])
def pool (es : List (Nat × CpInfo)) (last : Nat) : Array CpInfo := ⟨poolList es last⟩
def fileOf (pool : Array CpInfo) (this : Nat) (attrs : Array Attribute := #[]) (ms : Array MethodInfo := #[]) (fl : Nat := 33) (sup : Nat := 0) (ifs : Array Nat := #[]) (fds : Array FieldInfo := #[]) : ClassFile where
  minorVersion := 0
  majorVersion := 65
  constantPool := pool
  accessFlags := fl
  thisClass := this
  superClass := sup
  interfaces := ifs
  fields := fds
  methods := ms
  attributes := attrs
def plain (name : String) (sup : Option ClassId) : Class where
  name := name
  kind := .ordinary
  loader := none
  accessFlags := 33
  super := sup
  interfaces := #[]
  cf := none
  fields := #[]
  methods := #[]
  instanceTypes := #[]
  staticTypes := #[]
  resolved := #[]
  callSites := []
  init := .initialized
  statics := none
  mirror := none

def pool0 : Array CpInfo := pool [(5, u "<init>"), (0, u "()V"), (1, .class_ 10), (1, u "java/lang/Object")] 113

def k0c0 : Code := { maxStack := 0, maxLocals := 1, code := object_method_1_code, exceptionTable := #[], attributes := #[] }
def k0m0 : Method := { name := "<init>", desc := "()V", sig := { parameters := [], returnType := none }, accessFlags := 1, code := some k0c0 }
/-- java/lang/Object -/
def k0 : Class := { plain "java/lang/Object" none with
  accessFlags := 33
  interfaces := #[]
  cf := some (fileOf pool0 8 #[] #[{ accessFlags := 1, nameIndex := 5, descriptorIndex := 6, attributes := #[] }] 33 0 #[] #[])
  fields := #[]
  methods := #[k0m0]
  instanceTypes := #[]
  staticTypes := #[]
  resolved := Array.replicate 124 none
  statics := none }

def pool1 : Array CpInfo := pool [(2, .class_ 4), (1, u "java/lang/Object"), (0, u "<init>"), (0, u "()V"), (0, .class_ 8), (0, u "com/example/wirepeek/wirepeek/ui/ShownReply"), (0, .methodref 7 10), (0, .nameAndType 5 11), (0, u "(I)V"), (0, .integer 2147483647), (0, .methodref 7 14), (0, .nameAndType 15 16), (0, u "received"), (0, u "()J"), (0, .methodref 7 18), (0, .nameAndType 19 20), (0, u "wire"), (0, u "([BII)V"), (0, .methodref 7 22), (0, .nameAndType 23 24), (0, u "shownBody"), (0, u "()Lcom/example/wirepeek/wirepeek/ui/ShownBytes;"), (0, .methodref 26 27), (0, .class_ 28), (0, .nameAndType 29 16), (0, u "com/example/wirepeek/wirepeek/ui/ShownBytes"), (0, u "count"), (0, .methodref 7 31), (0, .nameAndType 32 24), (0, u "shownUnreadableHead"), (0, .methodref 7 34), (0, .nameAndType 35 24), (0, u "shownUnreadableChunks"), (0, .class_ 37), (0, u "com/example/wirepeek/wirepeek/ui/ShownReplyWirePinLaw"), (2, u "law"), (0, u "(IIII)Z")] 5

def k1m0 : Method := { name := "<init>", desc := "()V", sig := { parameters := [], returnType := none }, accessFlags := 1, code := none }
def k1c1 : Code := { maxStack := 6, maxLocals := 10, code := code, exceptionTable := #[], attributes := #[] }
def k1m1 : Method := { name := "law", desc := "(IIII)Z", sig := { parameters := [.int, .int, .int, .int], returnType := some .boolean }, accessFlags := 9, code := some k1c1 }
/-- com/example/wirepeek/wirepeek/ui/ShownReplyWirePinLaw -/
def k1 : Class := { plain "com/example/wirepeek/wirepeek/ui/ShownReplyWirePinLaw" (some 0) with
  accessFlags := 49
  interfaces := #[]
  cf := some (fileOf pool1 36 #[] #[{ accessFlags := 1, nameIndex := 5, descriptorIndex := 6, attributes := #[] }, { accessFlags := 9, nameIndex := 40, descriptorIndex := 41, attributes := #[] }] 49 2 #[] #[])
  fields := #[]
  methods := #[k1m0, k1m1]
  instanceTypes := #[]
  staticTypes := #[]
  resolved := Array.replicate 47 none
  statics := none }

def pool2 : Array CpInfo := pool [(1, .class_ 2), (0, u "com/example/wirepeek/wirepeek/engine/ReplyHandler"), (0, .class_ 4), (0, u "java/lang/Object")] 15

/-- com/example/wirepeek/wirepeek/engine/ReplyHandler -/
def k2 : Class := { plain "com/example/wirepeek/wirepeek/engine/ReplyHandler" (some 0) with
  accessFlags := 1537
  interfaces := #[]
  cf := some (fileOf pool2 1 #[] #[] 1537 3 #[] #[])
  fields := #[]
  methods := #[]
  instanceTypes := #[]
  staticTypes := #[]
  resolved := Array.replicate 20 none
  statics := none }

def pool3 : Array CpInfo := pool [(1, .methodref 2 3), (0, .class_ 4), (0, .nameAndType 5 6), (0, u "java/lang/Object"), (0, u "<init>"), (0, u "()V"), (0, .class_ 8), (0, u "com/example/wirepeek/wirepeek/ui/ShownBytes"), (0, .methodref 7 10), (0, .nameAndType 5 11), (0, u "(I)V"), (0, .fieldref 13 14), (0, .class_ 15), (0, .nameAndType 16 17), (0, u "com/example/wirepeek/wirepeek/ui/ShownReply"), (0, u "body"), (0, u "Lcom/example/wirepeek/wirepeek/ui/ShownBytes;"), (0, .fieldref 13 19), (0, .nameAndType 20 17), (0, u "unreadableHead"), (0, .fieldref 13 22), (0, .nameAndType 23 17), (0, u "unreadableChunks"), (0, .fieldref 13 25), (0, .nameAndType 26 27), (0, u "received"), (0, u "J"), (3, u "([BII)V"), (0, .class_ 33), (0, u "com/example/wirepeek/wirepeek/engine/ReplyHandler"), (2, u "wire"), (0, u "()J"), (0, u "shownBody"), (0, u "()Lcom/example/wirepeek/wirepeek/ui/ShownBytes;"), (0, u "shownUnreadableHead"), (0, u "shownUnreadableChunks")] 2

def k3c0 : Code := { maxStack := 4, maxLocals := 2, code := prog_110_method_1_code, exceptionTable := #[], attributes := #[] }
def k3m0 : Method := { name := "<init>", desc := "(I)V", sig := { parameters := [.int], returnType := none }, accessFlags := 0, code := some k3c0 }
def k3c1 : Code := { maxStack := 5, maxLocals := 4, code := prog_110_method_2_code, exceptionTable := #[], attributes := #[] }
def k3m1 : Method := { name := "wire", desc := "([BII)V", sig := { parameters := [(.array .byte), .int, .int], returnType := none }, accessFlags := 1, code := some k3c1 }
def k3c2 : Code := { maxStack := 2, maxLocals := 1, code := prog_110_method_6_code, exceptionTable := #[], attributes := #[] }
def k3m2 : Method := { name := "received", desc := "()J", sig := { parameters := [], returnType := some .long }, accessFlags := 0, code := some k3c2 }
def k3c3 : Code := { maxStack := 1, maxLocals := 1, code := prog_110_method_7_code, exceptionTable := #[], attributes := #[] }
def k3m3 : Method := { name := "shownBody", desc := "()Lcom/example/wirepeek/wirepeek/ui/ShownBytes;", sig := { parameters := [], returnType := some (.object "com/example/wirepeek/wirepeek/ui/ShownBytes") }, accessFlags := 0, code := some k3c3 }
def k3c4 : Code := { maxStack := 1, maxLocals := 1, code := prog_110_method_8_code, exceptionTable := #[], attributes := #[] }
def k3m4 : Method := { name := "shownUnreadableHead", desc := "()Lcom/example/wirepeek/wirepeek/ui/ShownBytes;", sig := { parameters := [], returnType := some (.object "com/example/wirepeek/wirepeek/ui/ShownBytes") }, accessFlags := 0, code := some k3c4 }
def k3c5 : Code := { maxStack := 1, maxLocals := 1, code := prog_110_method_9_code, exceptionTable := #[], attributes := #[] }
def k3m5 : Method := { name := "shownUnreadableChunks", desc := "()Lcom/example/wirepeek/wirepeek/ui/ShownBytes;", sig := { parameters := [], returnType := some (.object "com/example/wirepeek/wirepeek/ui/ShownBytes") }, accessFlags := 0, code := some k3c5 }
/-- com/example/wirepeek/wirepeek/ui/ShownReply -/
def k3 : Class := { plain "com/example/wirepeek/wirepeek/ui/ShownReply" (some 0) with
  accessFlags := 48
  interfaces := #[2]
  cf := some (fileOf pool3 13 #[] #[{ accessFlags := 0, nameIndex := 5, descriptorIndex := 11, attributes := #[] }, { accessFlags := 1, nameIndex := 36, descriptorIndex := 31, attributes := #[] }, { accessFlags := 0, nameIndex := 26, descriptorIndex := 37, attributes := #[] }, { accessFlags := 0, nameIndex := 38, descriptorIndex := 39, attributes := #[] }, { accessFlags := 0, nameIndex := 40, descriptorIndex := 39, attributes := #[] }, { accessFlags := 0, nameIndex := 41, descriptorIndex := 39, attributes := #[] }] 48 2 #[32] #[{ accessFlags := 18, nameIndex := 16, descriptorIndex := 17, attributes := #[] }, { accessFlags := 18, nameIndex := 20, descriptorIndex := 17, attributes := #[] }, { accessFlags := 18, nameIndex := 23, descriptorIndex := 17, attributes := #[] }, { accessFlags := 2, nameIndex := 26, descriptorIndex := 27, attributes := #[] }])
  fields := #[{ name := "body", type := (.object "com/example/wirepeek/wirepeek/ui/ShownBytes"), accessFlags := 18, slot := 0, constantValue := 0 }, { name := "unreadableHead", type := (.object "com/example/wirepeek/wirepeek/ui/ShownBytes"), accessFlags := 18, slot := 1, constantValue := 0 }, { name := "unreadableChunks", type := (.object "com/example/wirepeek/wirepeek/ui/ShownBytes"), accessFlags := 18, slot := 2, constantValue := 0 }, { name := "received", type := .long, accessFlags := 2, slot := 3, constantValue := 0 }]
  methods := #[k3m0, k3m1, k3m2, k3m3, k3m4, k3m5]
  instanceTypes := #[(.object "com/example/wirepeek/wirepeek/ui/ShownBytes"), (.object "com/example/wirepeek/wirepeek/ui/ShownBytes"), (.object "com/example/wirepeek/wirepeek/ui/ShownBytes"), .long]
  staticTypes := #[]
  resolved := Array.replicate 44 none
  statics := none }

def pool4 : Array CpInfo := pool [(1, .methodref 2 3), (0, .class_ 4), (0, .nameAndType 5 6), (0, u "java/lang/Object"), (0, u "<init>"), (0, u "()V"), (0, .class_ 8), (0, u "java/io/ByteArrayOutputStream"), (0, .methodref 7 3), (0, .fieldref 11 12), (0, .class_ 13), (0, .nameAndType 14 15), (0, u "com/example/wirepeek/wirepeek/ui/ShownBytes"), (0, u "kept"), (0, u "Ljava/io/ByteArrayOutputStream;"), (0, .fieldref 11 17), (0, .nameAndType 18 19), (0, u "limit"), (0, u "I"), (14, .fieldref 11 35), (0, .nameAndType 36 37), (0, u "count"), (0, u "J"), (78, u "(I)V"), (3, u "()J")] 27

def k4c0 : Code := { maxStack := 3, maxLocals := 2, code := prog_109_method_1_code, exceptionTable := #[], attributes := #[] }
def k4m0 : Method := { name := "<init>", desc := "(I)V", sig := { parameters := [.int], returnType := none }, accessFlags := 0, code := some k4c0 }
def k4c1 : Code := { maxStack := 2, maxLocals := 1, code := prog_109_method_3_code, exceptionTable := #[], attributes := #[] }
def k4m1 : Method := { name := "count", desc := "()J", sig := { parameters := [], returnType := some .long }, accessFlags := 0, code := some k4c1 }
/-- com/example/wirepeek/wirepeek/ui/ShownBytes -/
def k4 : Class := { plain "com/example/wirepeek/wirepeek/ui/ShownBytes" (some 0) with
  accessFlags := 48
  interfaces := #[]
  cf := some (fileOf pool4 11 #[] #[{ accessFlags := 0, nameIndex := 5, descriptorIndex := 116, attributes := #[] }, { accessFlags := 0, nameIndex := 36, descriptorIndex := 120, attributes := #[] }] 48 2 #[] #[{ accessFlags := 18, nameIndex := 18, descriptorIndex := 19, attributes := #[] }, { accessFlags := 18, nameIndex := 14, descriptorIndex := 15, attributes := #[] }, { accessFlags := 2, nameIndex := 36, descriptorIndex := 37, attributes := #[] }])
  fields := #[{ name := "limit", type := .int, accessFlags := 18, slot := 0, constantValue := 0 }, { name := "kept", type := (.object "java/io/ByteArrayOutputStream"), accessFlags := 18, slot := 1, constantValue := 0 }, { name := "count", type := .long, accessFlags := 2, slot := 2, constantValue := 0 }]
  methods := #[k4m0, k4m1]
  instanceTypes := #[.int, (.object "java/io/ByteArrayOutputStream"), .long]
  staticTypes := #[]
  resolved := Array.replicate 148 none
  statics := none }

def pool5 : Array CpInfo := pool [(1, .class_ 2), (0, u "java/lang/AutoCloseable"), (0, .class_ 4), (0, u "java/lang/Object")] 7

/-- java/lang/AutoCloseable -/
def k5 : Class := { plain "java/lang/AutoCloseable" (some 0) with
  accessFlags := 1537
  interfaces := #[]
  cf := some (fileOf pool5 1 #[] #[] 1537 3 #[] #[])
  fields := #[]
  methods := #[]
  instanceTypes := #[]
  staticTypes := #[]
  resolved := Array.replicate 12 none
  statics := none }

def pool6 : Array CpInfo := pool [(1, .class_ 2), (0, u "java/io/Closeable"), (0, .class_ 4), (0, u "java/lang/Object"), (0, .class_ 6), (0, u "java/lang/AutoCloseable")] 7

/-- java/io/Closeable -/
def k6 : Class := { plain "java/io/Closeable" (some 0) with
  accessFlags := 1537
  interfaces := #[5]
  cf := some (fileOf pool6 1 #[] #[] 1537 3 #[5] #[])
  fields := #[]
  methods := #[]
  instanceTypes := #[]
  staticTypes := #[]
  resolved := Array.replicate 14 none
  statics := none }

def pool7 : Array CpInfo := pool [(1, .class_ 2), (0, u "java/io/Flushable"), (0, .class_ 4), (0, u "java/lang/Object")] 7

/-- java/io/Flushable -/
def k7 : Class := { plain "java/io/Flushable" (some 0) with
  accessFlags := 1537
  interfaces := #[]
  cf := some (fileOf pool7 1 #[] #[] 1537 3 #[] #[])
  fields := #[]
  methods := #[]
  instanceTypes := #[]
  staticTypes := #[]
  resolved := Array.replicate 12 none
  statics := none }

def pool8 : Array CpInfo := pool [(1, .methodref 2 3), (0, .class_ 4), (0, .nameAndType 5 6), (0, u "java/lang/Object"), (0, u "<init>"), (0, u "()V"), (0, .class_ 8), (0, u "java/io/OutputStream$1"), (2, .class_ 13), (1, u "java/io/OutputStream"), (11, .class_ 26), (0, u "java/io/Closeable"), (0, .class_ 28), (0, u "java/io/Flushable")] 24

def k8c0 : Code := { maxStack := 1, maxLocals := 1, code := jdk_2038_method_1_code, exceptionTable := #[], attributes := #[] }
def k8m0 : Method := { name := "<init>", desc := "()V", sig := { parameters := [], returnType := none }, accessFlags := 1, code := some k8c0 }
/-- java/io/OutputStream -/
def k8 : Class := { plain "java/io/OutputStream" (some 0) with
  accessFlags := 1057
  interfaces := #[6, 7]
  cf := some (fileOf pool8 11 #[.nestMembers #[7]] #[{ accessFlags := 1, nameIndex := 5, descriptorIndex := 6, attributes := #[] }] 1057 2 #[25, 27] #[])
  fields := #[]
  methods := #[k8m0]
  instanceTypes := #[]
  staticTypes := #[]
  resolved := Array.replicate 53 none
  statics := none }

def pool9 : Array CpInfo := pool [(1, .methodref 2 3), (0, .class_ 4), (0, .nameAndType 5 6), (0, u "java/io/ByteArrayOutputStream"), (0, u "<init>"), (0, u "(I)V"), (0, .methodref 8 9), (0, .class_ 10), (0, .nameAndType 5 11), (0, u "java/io/OutputStream"), (0, u "()V"), (21, .fieldref 2 34), (0, .nameAndType 35 36), (0, u "buf"), (0, u "[B"), (14, u "count"), (0, u "I")] 92

def k9c0 : Code := { maxStack := 2, maxLocals := 1, code := jdk_2005_method_1_code, exceptionTable := #[], attributes := #[] }
def k9m0 : Method := { name := "<init>", desc := "()V", sig := { parameters := [], returnType := none }, accessFlags := 1, code := some k9c0 }
def k9c1 : Code := { maxStack := 4, maxLocals := 2, code := jdk_2005_method_2_code, exceptionTable := #[], attributes := #[] }
def k9m1 : Method := { name := "<init>", desc := "(I)V", sig := { parameters := [.int], returnType := none }, accessFlags := 1, code := some k9c1 }
/-- java/io/ByteArrayOutputStream -/
def k9 : Class := { plain "java/io/ByteArrayOutputStream" (some 8) with
  accessFlags := 33
  interfaces := #[]
  cf := some (fileOf pool9 2 #[] #[{ accessFlags := 1, nameIndex := 5, descriptorIndex := 11, attributes := #[] }, { accessFlags := 1, nameIndex := 5, descriptorIndex := 6, attributes := #[] }] 33 8 #[] #[{ accessFlags := 4, nameIndex := 35, descriptorIndex := 36, attributes := #[] }, { accessFlags := 4, nameIndex := 51, descriptorIndex := 52, attributes := #[] }])
  fields := #[{ name := "buf", type := (.array .byte), accessFlags := 4, slot := 0, constantValue := 0 }, { name := "count", type := .int, accessFlags := 4, slot := 1, constantValue := 0 }]
  methods := #[k9m0, k9m1]
  instanceTypes := #[(.array .byte), .int]
  staticTypes := #[]
  resolved := Array.replicate 145 none
  statics := none }

def pool10 : Array CpInfo := pool [(1, u "java/lang/Cloneable"), (0, .class_ 1), (0, u "java/lang/Object"), (0, .class_ 3)] 3

/-- java/lang/Cloneable -/
def k10 : Class := { plain "java/lang/Cloneable" (some 0) with
  accessFlags := 1537
  interfaces := #[]
  cf := some (fileOf pool10 2 #[] #[] 1537 4 #[] #[])
  fields := #[]
  methods := #[]
  instanceTypes := #[]
  staticTypes := #[]
  resolved := Array.replicate 8 none
  statics := none }

def pool11 : Array CpInfo := pool [(1, u "java/io/Serializable"), (0, .class_ 1), (0, u "java/lang/Object"), (0, .class_ 3)] 3

/-- java/io/Serializable -/
def k11 : Class := { plain "java/io/Serializable" (some 0) with
  accessFlags := 1537
  interfaces := #[]
  cf := some (fileOf pool11 2 #[] #[] 1537 4 #[] #[])
  fields := #[]
  methods := #[]
  instanceTypes := #[]
  staticTypes := #[]
  resolved := Array.replicate 8 none
  statics := none }

/-- the primitive byte -/
def k12 : Class := { plain "byte" none with kind := .primitive 'B', accessFlags := 0x411 }
/-- [B -/
def k13 : Class := { plain "[B" (some 0) with kind := .array 12 .byte, interfaces := #[10, 11], accessFlags := 1041 }

/-- the primitive int -/
def k14 : Class := { plain "int" none with kind := .primitive 'I', accessFlags := 0x411 }
/-- [I -/
def k15 : Class := { plain "[I" (some 0) with kind := .array 14 .int, interfaces := #[10, 11], accessFlags := 1041 }

def heap : Heap := #[]
def classes : Array Class := #[k0, k1, k2, k3, k4, k5, k6, k7, k8, k9, k10, k11, k12, k13, k14, k15]
def interned : List (Array UInt16 × Addr) := []
def slotsUsed : Nat := 0
def theMethod : MethodId := ⟨1, 1⟩
def args0 : Array Value := #[.int 5, .int 7, .int 3, .int (-1)]
def aboutOver (below : List Frame) : State where
  vm := { classes := classes, interned := interned.toArray }
  heap := heap
  slotsUsed := slotsUsed
  threads := #[{ frames := .invoking theMethod args0 :: below }]
def below0 : List Frame := [.native { method := ⟨0, 0⟩, args := #[] }]
def about1 : State := aboutOver below0
def p0 : Program := .bare "" "" ""
def e0 : Env := launch0.env 0 0 0
theorem w_frames : about1.frames = Frame.invoking theMethod args0 :: below0 := rfl
set_option maxRecDepth 65536 in
theorem w_args : argsFit about1.vm theMethod args0 = true := by decide +kernel
set_option maxRecDepth 65536 in
theorem w_heap : heapFits about1 = true := by decide +kernel
set_option maxRecDepth 65536 in
theorem w_runnable : about1.curStatus? = some .runnable := by decide +kernel
set_option maxRecDepth 65536 in
theorem w_alone : about1.alone = true := by decide +kernel
set_option maxRecDepth 65536 in
theorem w_named : about1.methodNamed? x = some theMethod := by decide +kernel
set_option maxRecDepth 65536 in
theorem w_hears : about1.hears theMethod below0 = true := by decide +kernel
set_option maxRecDepth 65536 in
theorem w_ripe : about1.ripe theMethod args0 below0 = true := by decide +kernel
theorem w_running : about1.status = .running := rfl
set_option maxRecDepth 65536 in
theorem w_room : about1.hasRoom e0.platform room_1 = true :=
  launch0.hasRoom_least _ room_1 (by decide +kernel) (by decide +kernel) (by decide +kernel) (by decide +kernel) (by decide +kernel) (by decide +kernel)
theorem allAtoms_all (ts : List Jvm.Cond) (a : Array Jvm.Value) (st : Jvm.State) : (allAtoms ts).before a st = ts.all (fun c => c.before a st) := by
  induction ts with
  | nil => rfl
  | cons c t ih =>
    show (Jvm.Cond.and c (allAtoms t)).before a st = _
    rw [Jvm.Cond.before_and, ih, List.all_cons]
def words1 : List Jvm.Cond := Jvm.Cond.code x code maxLocals ret :: tables_1
/-- a 'code' word, met by the world's own term for the bytes: nothing is compared byte by byte -/
theorem code_word {y : MethodName} {bytes : ByteArray} {mx : Nat} {rt : Option FieldType} {a : Array Value} {s : State} {m : MethodId} {meth : Method} {c : Code} (h1 : s.methodNamed? y = some m) (h2 : s.vm.method? m = some meth) (h3 : meth.code = some c) (h4 : c.code = bytes)
    (h5 : (c.maxLocals == mx && c.exceptionTable.isEmpty && decide (c.maxStack ≤ mostOperands) && decide (meth.sig.returnType = rt) && !meth.locks && decide (parseMethodDescriptor y.desc = some meth.sig)) = true) : (Jvm.Cond.code y bytes mx rt).before a s = true := by
  simp only [Bool.and_eq_true, beq_iff_eq, Bool.not_eq_true', decide_eq_true_eq] at h5
  obtain ⟨⟨⟨⟨⟨g1, g2⟩, g3⟩, g4⟩, g5⟩, g6⟩ := h5
  simp [Cond.before, Cond.holds, Cond.value, h1, h2, h3, h4, g1, g2, g3, g4, g5, g6]
def isCode : Jvm.Cond → Bool
  | .code _ _ _ _ => true
  | _ => false
theorem all_split {L : List Jvm.Cond} {P : Jvm.Cond → Bool} (h1 : L.all (fun c => isCode c || P c) = true) (h2 : ∀ c ∈ L.filter isCode, P c = true) : L.all P = true := by
  refine List.all_eq_true.mpr fun c hc => ?_
  have h := List.all_eq_true.mp h1 c hc
  rcases Bool.eq_false_or_eq_true (isCode c) with hi | hi
  · exact h2 c (List.mem_filter.mpr ⟨hc, hi⟩)
  · simpa [hi] using h
set_option maxRecDepth 65536 in
theorem w_c0 : (Jvm.Cond.code x code maxLocals ret).before args0 about1 = true := code_word (m := ⟨1, 1⟩) (meth := k1m1) (c := k1c1) (by decide +kernel) rfl rfl rfl (by decide +kernel)
set_option maxRecDepth 65536 in
theorem w_c1 : (Jvm.Cond.code ({ cls := "com/example/wirepeek/wirepeek/ui/ShownReply", name := "<init>", desc := "(I)V" } : Jvm.MethodName) prog_110_method_1_code (2 : Nat) (Option.none : Option Jvm.ClassFile.FieldType)).before args0 about1 = true := code_word (m := ⟨3, 0⟩) (meth := k3m0) (c := k3c0) (by decide +kernel) rfl rfl rfl (by decide +kernel)
set_option maxRecDepth 65536 in
theorem w_c2 : (Jvm.Cond.code ({ cls := "java/lang/Object", name := "<init>", desc := "()V" } : Jvm.MethodName) object_method_1_code (1 : Nat) (Option.none : Option Jvm.ClassFile.FieldType)).before args0 about1 = true := code_word (m := ⟨0, 0⟩) (meth := k0m0) (c := k0c0) (by decide +kernel) rfl rfl rfl (by decide +kernel)
set_option maxRecDepth 65536 in
theorem w_c3 : (Jvm.Cond.code ({ cls := "com/example/wirepeek/wirepeek/ui/ShownBytes", name := "<init>", desc := "(I)V" } : Jvm.MethodName) prog_109_method_1_code (2 : Nat) (Option.none : Option Jvm.ClassFile.FieldType)).before args0 about1 = true := code_word (m := ⟨4, 0⟩) (meth := k4m0) (c := k4c0) (by decide +kernel) rfl rfl rfl (by decide +kernel)
set_option maxRecDepth 65536 in
theorem w_c4 : (Jvm.Cond.code ({ cls := "java/io/ByteArrayOutputStream", name := "<init>", desc := "()V" } : Jvm.MethodName) jdk_2005_method_1_code (1 : Nat) (Option.none : Option Jvm.ClassFile.FieldType)).before args0 about1 = true := code_word (m := ⟨9, 0⟩) (meth := k9m0) (c := k9c0) (by decide +kernel) rfl rfl rfl (by decide +kernel)
set_option maxRecDepth 65536 in
theorem w_c5 : (Jvm.Cond.code ({ cls := "java/io/ByteArrayOutputStream", name := "<init>", desc := "(I)V" } : Jvm.MethodName) jdk_2005_method_2_code (2 : Nat) (Option.none : Option Jvm.ClassFile.FieldType)).before args0 about1 = true := code_word (m := ⟨9, 1⟩) (meth := k9m1) (c := k9c1) (by decide +kernel) rfl rfl rfl (by decide +kernel)
set_option maxRecDepth 65536 in
theorem w_c6 : (Jvm.Cond.code ({ cls := "java/io/OutputStream", name := "<init>", desc := "()V" } : Jvm.MethodName) jdk_2038_method_1_code (1 : Nat) (Option.none : Option Jvm.ClassFile.FieldType)).before args0 about1 = true := code_word (m := ⟨8, 0⟩) (meth := k8m0) (c := k8c0) (by decide +kernel) rfl rfl rfl (by decide +kernel)
set_option maxRecDepth 65536 in
theorem w_c7 : (Jvm.Cond.code ({ cls := "com/example/wirepeek/wirepeek/ui/ShownReply", name := "received", desc := "()J" } : Jvm.MethodName) prog_110_method_6_code (1 : Nat) (Option.some Jvm.ClassFile.FieldType.long)).before args0 about1 = true := code_word (m := ⟨3, 2⟩) (meth := k3m2) (c := k3c2) (by decide +kernel) rfl rfl rfl (by decide +kernel)
set_option maxRecDepth 65536 in
theorem w_c8 : (Jvm.Cond.code ({ cls := "com/example/wirepeek/wirepeek/ui/ShownReply", name := "wire", desc := "([BII)V" } : Jvm.MethodName) prog_110_method_2_code (4 : Nat) (Option.none : Option Jvm.ClassFile.FieldType)).before args0 about1 = true := code_word (m := ⟨3, 1⟩) (meth := k3m1) (c := k3c1) (by decide +kernel) rfl rfl rfl (by decide +kernel)
set_option maxRecDepth 65536 in
theorem w_c9 : (Jvm.Cond.code ({ cls := "com/example/wirepeek/wirepeek/ui/ShownReply", name := "shownBody", desc := "()Lcom/example/wirepeek/wirepeek/ui/ShownBytes;" } : Jvm.MethodName) prog_110_method_7_code (1 : Nat) (Option.some (Jvm.ClassFile.FieldType.object "com/example/wirepeek/wirepeek/ui/ShownBytes"))).before args0 about1 = true := code_word (m := ⟨3, 3⟩) (meth := k3m3) (c := k3c3) (by decide +kernel) rfl rfl rfl (by decide +kernel)
set_option maxRecDepth 65536 in
theorem w_c10 : (Jvm.Cond.code ({ cls := "com/example/wirepeek/wirepeek/ui/ShownBytes", name := "count", desc := "()J" } : Jvm.MethodName) prog_109_method_3_code (1 : Nat) (Option.some Jvm.ClassFile.FieldType.long)).before args0 about1 = true := code_word (m := ⟨4, 1⟩) (meth := k4m1) (c := k4c1) (by decide +kernel) rfl rfl rfl (by decide +kernel)
set_option maxRecDepth 65536 in
theorem w_c11 : (Jvm.Cond.code ({ cls := "com/example/wirepeek/wirepeek/ui/ShownReply", name := "shownUnreadableHead", desc := "()Lcom/example/wirepeek/wirepeek/ui/ShownBytes;" } : Jvm.MethodName) prog_110_method_8_code (1 : Nat) (Option.some (Jvm.ClassFile.FieldType.object "com/example/wirepeek/wirepeek/ui/ShownBytes"))).before args0 about1 = true := code_word (m := ⟨3, 4⟩) (meth := k3m4) (c := k3c4) (by decide +kernel) rfl rfl rfl (by decide +kernel)
set_option maxRecDepth 65536 in
theorem w_c12 : (Jvm.Cond.code ({ cls := "com/example/wirepeek/wirepeek/ui/ShownReply", name := "shownUnreadableChunks", desc := "()Lcom/example/wirepeek/wirepeek/ui/ShownBytes;" } : Jvm.MethodName) prog_110_method_9_code (1 : Nat) (Option.some (Jvm.ClassFile.FieldType.object "com/example/wirepeek/wirepeek/ui/ShownBytes"))).before args0 about1 = true := code_word (m := ⟨3, 5⟩) (meth := k3m5) (c := k3c5) (by decide +kernel) rfl rfl rfl (by decide +kernel)
def codes1 : List Jvm.Cond := [Jvm.Cond.code x code maxLocals ret, Jvm.Cond.code ({ cls := "com/example/wirepeek/wirepeek/ui/ShownReply", name := "<init>", desc := "(I)V" } : Jvm.MethodName) prog_110_method_1_code (2 : Nat) (Option.none : Option Jvm.ClassFile.FieldType), Jvm.Cond.code ({ cls := "java/lang/Object", name := "<init>", desc := "()V" } : Jvm.MethodName) object_method_1_code (1 : Nat) (Option.none : Option Jvm.ClassFile.FieldType), Jvm.Cond.code ({ cls := "com/example/wirepeek/wirepeek/ui/ShownBytes", name := "<init>", desc := "(I)V" } : Jvm.MethodName) prog_109_method_1_code (2 : Nat) (Option.none : Option Jvm.ClassFile.FieldType), Jvm.Cond.code ({ cls := "java/io/ByteArrayOutputStream", name := "<init>", desc := "()V" } : Jvm.MethodName) jdk_2005_method_1_code (1 : Nat) (Option.none : Option Jvm.ClassFile.FieldType), Jvm.Cond.code ({ cls := "java/io/ByteArrayOutputStream", name := "<init>", desc := "(I)V" } : Jvm.MethodName) jdk_2005_method_2_code (2 : Nat) (Option.none : Option Jvm.ClassFile.FieldType), Jvm.Cond.code ({ cls := "java/io/OutputStream", name := "<init>", desc := "()V" } : Jvm.MethodName) jdk_2038_method_1_code (1 : Nat) (Option.none : Option Jvm.ClassFile.FieldType), Jvm.Cond.code ({ cls := "com/example/wirepeek/wirepeek/ui/ShownReply", name := "received", desc := "()J" } : Jvm.MethodName) prog_110_method_6_code (1 : Nat) (Option.some Jvm.ClassFile.FieldType.long), Jvm.Cond.code ({ cls := "com/example/wirepeek/wirepeek/ui/ShownReply", name := "wire", desc := "([BII)V" } : Jvm.MethodName) prog_110_method_2_code (4 : Nat) (Option.none : Option Jvm.ClassFile.FieldType), Jvm.Cond.code ({ cls := "com/example/wirepeek/wirepeek/ui/ShownReply", name := "shownBody", desc := "()Lcom/example/wirepeek/wirepeek/ui/ShownBytes;" } : Jvm.MethodName) prog_110_method_7_code (1 : Nat) (Option.some (Jvm.ClassFile.FieldType.object "com/example/wirepeek/wirepeek/ui/ShownBytes")), Jvm.Cond.code ({ cls := "com/example/wirepeek/wirepeek/ui/ShownBytes", name := "count", desc := "()J" } : Jvm.MethodName) prog_109_method_3_code (1 : Nat) (Option.some Jvm.ClassFile.FieldType.long), Jvm.Cond.code ({ cls := "com/example/wirepeek/wirepeek/ui/ShownReply", name := "shownUnreadableHead", desc := "()Lcom/example/wirepeek/wirepeek/ui/ShownBytes;" } : Jvm.MethodName) prog_110_method_8_code (1 : Nat) (Option.some (Jvm.ClassFile.FieldType.object "com/example/wirepeek/wirepeek/ui/ShownBytes")), Jvm.Cond.code ({ cls := "com/example/wirepeek/wirepeek/ui/ShownReply", name := "shownUnreadableChunks", desc := "()Lcom/example/wirepeek/wirepeek/ui/ShownBytes;" } : Jvm.MethodName) prog_110_method_9_code (1 : Nat) (Option.some (Jvm.ClassFile.FieldType.object "com/example/wirepeek/wirepeek/ui/ShownBytes"))]
set_option maxRecDepth 65536 in
theorem codes_eq : words1.filter isCode = codes1 := rfl
theorem w_codes : ∀ c ∈ words1.filter isCode, c.before args0 about1 = true := by
  rw [codes_eq]
  intro c hc
  simp only [codes1, List.mem_cons, List.not_mem_nil, or_false] at hc
  rcases hc with rfl | rfl | rfl | rfl | rfl | rfl | rfl | rfl | rfl | rfl | rfl | rfl | rfl
  · exact w_c0
  · exact w_c1
  · exact w_c2
  · exact w_c3
  · exact w_c4
  · exact w_c5
  · exact w_c6
  · exact w_c7
  · exact w_c8
  · exact w_c9
  · exact w_c10
  · exact w_c11
  · exact w_c12
set_option maxRecDepth 65536 in
theorem w_t1 : (words1.take 24).all (fun c => isCode c || c.before args0 about1) = true := by decide +kernel
set_option maxRecDepth 65536 in
theorem w_t2 : ((words1.drop 24).take 24).all (fun c => isCode c || c.before args0 about1) = true := by decide +kernel
set_option maxRecDepth 65536 in
theorem w_t3 : (((words1.drop 24).drop 24).take 24).all (fun c => isCode c || c.before args0 about1) = true := by decide +kernel
set_option maxRecDepth 65536 in
theorem w_t4 : (((words1.drop 24).drop 24).drop 24).all (fun c => isCode c || c.before args0 about1) = true := by decide +kernel
theorem w_tables : (allAtoms (Jvm.Cond.code x code maxLocals ret :: tables_1)).before args0 about1 = true := by
  rw [allAtoms_all]
  show words1.all (fun c => c.before args0 about1) = true
  refine all_split ?_ w_codes
  rw [← List.take_append_drop 24 words1, List.all_append, w_t1, ← List.take_append_drop 24 (words1.drop 24), List.all_append, w_t2, ← List.take_append_drop 24 ((words1.drop 24).drop 24), List.all_append, w_t3, w_t4]
  rfl
set_option maxRecDepth 65536 in
theorem w_case : (Jvm.Cond.and given_1 narrow_1).before args0 about1 = true := by decide +kernel
theorem w_applies : (headSpec (Jvm.Cond.code x code maxLocals ret :: tables_1) room_1).applies x e0.platform about1 = true :=
  (Spec.applies_iff w_frames).mpr ⟨w_running, w_runnable, w_alone, w_named, w_hears, w_ripe, w_room, w_tables⟩
theorem atStart : AtStart classFile x code maxLocals ret World_1 tables_1 room_1 Calls_1 rest_1 Pre_1 launch0 p0 e0 about1 theMethod args0 below0 :=
  ⟨lists_1, trivial, launch0.admits_env _ _ _, launch0.least_env, fairChoices_fair.cas, fairChoices_fair.clock, w_frames, w_args, w_heap, w_applies, trivial, trivial, w_case⟩
end start1
theorem witness_1 : WitnessClaimed_1 := ⟨start1.p0, start1.e0, start1.about1, start1.theMethod, start1.args0, start1.below0, start1.atStart⟩
end Jvm.Pilot.@@N@@
