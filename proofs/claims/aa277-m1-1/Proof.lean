import JvmDerived
import JvmDerived.Pilot.@@N@@Statement
import JvmDerived.Pilot.@@N@@Code
set_option linter.unusedVariables false
set_option linter.unusedSimpArgs false
namespace Jvm.Own
open Sem ClassFile Op Lib Jvm.Stand Jvm.Free Jvm.LawKit Jvm.RoadKit
/-- what stays put in the walk of one body: program, environment, the state at the call, the method, its arguments, the frames below, its record and code, the state behind the entry, the entry frame -/
abbrev Dyn : Type := Program × Env × State × MethodId × Array Value × List Frame × Method × Code × State × JFrame
def Base (Z : State) (y : MethodName) (bytes : ByteArray) (mx : Nat) (rt : Option FieldType) (D : Dyn) : Prop :=
  match D with
  | (p, _, s, m, _, _, meth, c, _, _) => p.tables.exec = Jvm.exec ∧ c.code = bytes ∧ c.maxLocals = mx ∧ s.vm.findClass y.cls = some m.cls ∧ Z.Warmed39 s.vm ∧ meth.sig.returnType = rt ∧ meth.locks = false ∧ meth.name = y.name
/-- the walk has come to pc with these locals, this stack, this heap; k cells and n slots have been made -/
def Rch (l : Launch) (Z : State) (n0 : Nat) (R : Room) (y : MethodName) (bytes : ByteArray) (mx : Nat) (rt : Option FieldType) (D : Dyn) (h : Heap) (k n pc : Nat) (Ls : Array Slot) (st : List Value) : Prop :=
  Base Z y bytes mx rt D ∧
  match D with
  | (p, e, s, m, args, below, meth, c, s₁, g0) => ∃ (T : State) (locs : List Loc), Stand p l e R s m args below meth c T locs k n ∧ T.heap = h ∧ Fr n0 locs ∧ Steps p.tables e below (s₁.setTop g0) (T.setTop (mkF m pc Ls st))
/-- the body has returned v and left the heap h -/
def Don (l : Launch) (Z : State) (n0 : Nat) (R : Room) (D : Dyn) (h : Heap) (k n : Nat) (v : Option Value) : Prop :=
  match D with
  | (p, e, s, m, args, below, meth, c, s₁, g0) => ∃ (T : State) (locs : List Loc) (fs : List Frame), Stand p l e R s m args below meth c T locs k n ∧ T.heap = h ∧ Fr n0 locs ∧ Steps p.tables e below (s₁.setTop g0) (T.setFrames fs) ∧ (T.setFrames fs).heap = h ∧
      (T.setFrames fs).status = .running ∧ Ended (T.setFrames fs) below (.returned v) ∧ s.WarmedH (T.setFrames fs).vm ∧ s.sameButNew ({ T.setFrames fs with vm := s.vm } : State) locs k n
/-- a callee's contract at the heap h and the arguments as' -/
def Con (l : Launch) (Z : State) (n0 : Nat) (y : MethodName) (bytes : ByteArray) (mx : Nat) (rt : Option FieldType) (rm : Room) (as' : Array Value) (h : Heap) (Q : Option Value → Heap → Prop) : Prop :=
  ∀ ws : List Jvm.Cond, MetFree l y (head1 (Jvm.Cond.code y bytes mx rt :: ws) rm) (fun a U => a = as' ∧ Z.Warmed39 U.vm ∧ U.heap = h) (fun _ _ _ _ _ => True) (fun _ U o U' => ∃ v L, o = .returned v ∧ (Fr n0 L ∧ Q v U'.heap) ∧ FrameEnd U o U' L rm.cells rm.slots)
def ishlW (x z : Int32) : Int32 := x <<< (z &&& 31)
def ishrW (x z : Int32) : Int32 := x >>> (z &&& 31)
def iushrW (x z : Int32) : Int32 := (x.toUInt32 >>> (z &&& 31).toUInt32).toInt32
def lshlW (x : Int64) (z : Int32) : Int64 := x <<< (z &&& 0x3f).toInt64
def lshrW (x : Int64) (z : Int32) : Int64 := x >>> (z &&& 0x3f).toInt64
def lushrW (x : Int64) (z : Int32) : Int64 := (x.toUInt64 >>> (z &&& 0x3f).toInt64.toUInt64).toInt64
def lremW (x z : Int64) : Int64 := x - (x / z) * z
def i2bW (x : Int32) : Int32 := x.toInt8.toInt32
def i2cW (x : Int32) : Int32 := x.toUInt32.toUInt16.toUInt32.toInt32
def i2sW (x : Int32) : Int32 := x.toInt16.toInt32
/-- an element of an int list, by a Java index -/
def ga (L : List Int32) (j : Int32) : Int32 := L.getD j.toNatClampNeg 0
section Kit
variable {l : Launch} {Z : State} {a0 : Array Value} {n0 : Nat} {R : Room} {y : MethodName} {bytes : ByteArray} {mx : Nat} {rt : Option FieldType} {D : Dyn} {h h' : Heap} {k n pc : Nat} {Ls : Array Slot} {st : List Value}
theorem Con.enter {rm : Room} {as' : Array Value} {Q : Option Value → Heap → Prop} (hp : plainFor y = true) (ef : ∀ m, entryFrame m as' mx = mkF m 0 Ls [])
    (f : ∀ D : Dyn, Rch l Z n0 rm y bytes mx rt D h 0 0 0 Ls [] → ∃ v h', Don l Z n0 rm D h' rm.cells rm.slots v ∧ Q v h') : Con l Z n0 y bytes mx rt rm as' h Q := by
  intro ws
  refine MetFree.of_bodySF hp hisR ?_
  intro p e s m args below meth c s₁ Bd hml0 hP hK
  obtain ⟨rfl, hZ, hh⟩ := hP
  have X0 : Stand p l e rm s m args below meth c s₁ [] 0 0 := Stand.of_body Bd
  have e0 : s₁.heap = h := by rw [← hh, Bd.state]; rfl
  obtain ⟨v, h', hD, hQ⟩ := f (p, e, s, m, args, below, meth, c, s₁, mkF m 0 Ls []) ⟨⟨Bd.exec, Bd.bytes, hml0, findClass_of_methodNamed Bd.named, hZ, Bd.returns, Bd.notSynchronized, (name_of_methodNamed Bd.named Bd.method).1⟩, s₁, [], X0, e0, Fr.nil n0, Steps.refl _⟩
  obtain ⟨T, locs, fs, X, eT, N, hs, hh', hrun, hend, hW, hsame⟩ := hD
  exact ⟨_, _, castTop (ef m) hs, hrun, hend, v, locs, rfl, ⟨N, hh'.symm ▸ hQ⟩, ⟨_, rfl⟩, hW, hsame⟩
theorem Rch.go (r : Rch l Z n0 R y bytes mx rt D h k n pc Ls st) {pc' : Nat} {Ls' : Array Slot} {st' : List Value}
    (f : ∀ {p : Program} {e : Env} {s : State} {m : MethodId} {args : Array Value} {below : List Frame} {meth : Method} {c : Code} {T : State} {locs : List Loc}, Stand p l e R s m args below meth c T locs k n → p.tables.exec = Jvm.exec → c.code = bytes → Z.Warmed39 s.vm → s.vm.findClass y.cls = some m.cls → T.heap = h →
      ∀ target, Steps p.tables e below (T.setTop (mkF m pc' Ls' st')) target → Steps p.tables e below (T.setTop (mkF m pc Ls st)) target) : Rch l Z n0 R y bytes mx rt D h k n pc' Ls' st' := by
  obtain ⟨p, e, s, m, args, below, meth, c, s₁, g0⟩ := D
  obtain ⟨hB, T, locs, X, eT, N, hs⟩ := r
  exact ⟨hB, T, locs, X, eT, N, hs.trans (f X hB.1 hB.2.1 hB.2.2.2.2.1 hB.2.2.2.1 eT _ (Steps.refl _))⟩
theorem Rch.mv (r : Rch l Z n0 R y bytes mx rt D h k n pc Ls st) {k' n' pc' : Nat} {Ls' : Array Slot} {st' : Heap → List Value} {P : Heap → Prop}
    (f : ∀ {p : Program} {e : Env} {s : State} {m : MethodId} {args : Array Value} {below : List Frame} {meth : Method} {c : Code} {T : State} {locs : List Loc}, Stand p l e R s m args below meth c T locs k n → p.tables.exec = Jvm.exec → c.code = bytes → c.maxLocals = mx → meth.name = y.name → Z.Warmed39 s.vm → s.vm.findClass y.cls = some m.cls → T.heap = h → Fr n0 locs →
      ∃ (T' : State) (h' : Heap) (locs' : List Loc), Stand p l e R s m args below meth c T' locs' k' n' ∧ T'.heap = h' ∧ P h' ∧ Fr n0 locs' ∧ Steps p.tables e below (T.setTop (mkF m pc Ls st)) (T'.setTop (mkF m pc' Ls' (st' h')))) : ∃ h', P h' ∧ Rch l Z n0 R y bytes mx rt D h' k' n' pc' Ls' (st' h') := by
  obtain ⟨p, e, s, m, args, below, meth, c, s₁, g0⟩ := D
  obtain ⟨hB, T, locs, X, eT, N, hs⟩ := r
  obtain ⟨T', h', locs', X', eT', hP, N', hs'⟩ := f X hB.1 hB.2.1 hB.2.2.1 hB.2.2.2.2.2.2.2 hB.2.2.2.2.1 hB.2.2.2.1 eT N
  exact ⟨h', hP, hB, T', locs', X', eT', N', hs.trans hs'⟩
theorem Rch.more (r : Rch l Z n0 R y bytes mx rt D h k n pc Ls st) {k' n' : Nat} (hk : k ≤ k') (hn : n ≤ n') : Rch l Z n0 R y bytes mx rt D h k' n' pc Ls st := by
  obtain ⟨p, e, s, m, args, below, meth, c, s₁, g0⟩ := D
  obtain ⟨hB, T, locs, X, eT, N, hs⟩ := r
  exact ⟨hB, T, locs, X.more hk hn, eT, N, hs⟩
theorem aload {i : Nat} {v : Value} (r : Rch l Z n0 R y bytes mx rt D h k n pc Ls st) (hd : decode bytes pc = .ok (.aload i, 2)) (hl : Ls[i]? = some (.val v)) (hv : v.isRef = true) : Rch l Z n0 R y bytes mx rt D h k n (pc + 2) Ls (v :: st) := r.go fun X hx b _ _ _ t q => XS.aload X.here hx rfl (hb b hd) hl hv q
theorem aloadN {i : Fin 4} {v : Value} (r : Rch l Z n0 R y bytes mx rt D h k n pc Ls st) (hd : decode bytes pc = .ok (.aload_n i, 1)) (hl : Ls[i.val]? = some (.val v)) (hv : v.isRef = true) : Rch l Z n0 R y bytes mx rt D h k n (pc + 1) Ls (v :: st) := r.go fun X hx b _ _ _ t q => XS.aloadN X.here hx rfl (hb b hd) hl hv q
theorem iload {i : Nat} {v : Int32} (r : Rch l Z n0 R y bytes mx rt D h k n pc Ls st) (hd : decode bytes pc = .ok (.iload i, 2)) (hl : Ls[i]? = some (.val (.int v))) : Rch l Z n0 R y bytes mx rt D h k n (pc + 2) Ls (.int v :: st) := r.go fun X hx b _ _ _ t q => XS.iload X.here hx rfl (hb b hd) hl q
theorem iloadN {i : Fin 4} {v : Int32} (r : Rch l Z n0 R y bytes mx rt D h k n pc Ls st) (hd : decode bytes pc = .ok (.iload_n i, 1)) (hl : Ls[i.val]? = some (.val (.int v))) : Rch l Z n0 R y bytes mx rt D h k n (pc + 1) Ls (.int v :: st) := r.go fun X hx b _ _ _ t q => XS.iloadN X.here hx rfl (hb b hd) hl q
theorem lload {i : Nat} {v : Int64} (r : Rch l Z n0 R y bytes mx rt D h k n pc Ls st) (hd : decode bytes pc = .ok (.lload i, 2)) (hl : Ls[i]? = some (.val (.long v))) : Rch l Z n0 R y bytes mx rt D h k n (pc + 2) Ls (.long v :: st) := r.go fun X hx b _ _ _ t q => XS.lload X.here hx rfl (hb b hd) hl q
theorem lloadN {i : Fin 4} {v : Int64} (r : Rch l Z n0 R y bytes mx rt D h k n pc Ls st) (hd : decode bytes pc = .ok (.lload_n i, 1)) (hl : Ls[i.val]? = some (.val (.long v))) : Rch l Z n0 R y bytes mx rt D h k n (pc + 1) Ls (.long v :: st) := r.go fun X hx b _ _ _ t q => XS.lloadN X.here hx rfl (hb b hd) hl q
theorem istore {x : Int32} {i : Nat} {L' : Array Slot} (r : Rch l Z n0 R y bytes mx rt D h k n pc Ls (.int x :: st)) (hd : decode bytes pc = .ok (.istore i, 2)) (hl : storeLocals Ls i (.int x) = some L') : Rch l Z n0 R y bytes mx rt D h k n (pc + 2) L' st := r.go fun X hx b _ _ _ t q => XS.istore X.here hx rfl (hb b hd) rfl hl q
theorem istoreN {x : Int32} {i : Fin 4} {L' : Array Slot} (r : Rch l Z n0 R y bytes mx rt D h k n pc Ls (.int x :: st)) (hd : decode bytes pc = .ok (.istore_n i, 1)) (hl : storeLocals Ls i.val (.int x) = some L') : Rch l Z n0 R y bytes mx rt D h k n (pc + 1) L' st := r.go fun X hx b _ _ _ t q => XS.istoreN X.here hx rfl (hb b hd) rfl hl q
theorem lstore {x : Int64} {i : Nat} {L' : Array Slot} (r : Rch l Z n0 R y bytes mx rt D h k n pc Ls (.long x :: st)) (hd : decode bytes pc = .ok (.lstore i, 2)) (hl : storeLocals Ls i (.long x) = some L') : Rch l Z n0 R y bytes mx rt D h k n (pc + 2) L' st := r.go fun X hx b _ _ _ t q => XS.lstore X.here hx rfl (hb b hd) rfl hl q
theorem lstoreN {x : Int64} {i : Fin 4} {L' : Array Slot} (r : Rch l Z n0 R y bytes mx rt D h k n pc Ls (.long x :: st)) (hd : decode bytes pc = .ok (.lstore_n i, 1)) (hl : storeLocals Ls i.val (.long x) = some L') : Rch l Z n0 R y bytes mx rt D h k n (pc + 1) L' st := r.go fun X hx b _ _ _ t q => XS.lstoreN X.here hx rfl (hb b hd) rfl hl q
theorem astore {x : Value} {i : Nat} {L' : Array Slot} (r : Rch l Z n0 R y bytes mx rt D h k n pc Ls (x :: st)) (hd : decode bytes pc = .ok (.astore i, 2)) (hv : x.isRef = true) (hl : storeLocals Ls i x = some L') : Rch l Z n0 R y bytes mx rt D h k n (pc + 2) L' st := r.go fun X hx b _ _ _ t q => XS.astore X.here hx rfl (hb b hd) rfl hv hl q
theorem astoreN {x : Value} {i : Fin 4} {L' : Array Slot} (r : Rch l Z n0 R y bytes mx rt D h k n pc Ls (x :: st)) (hd : decode bytes pc = .ok (.astore_n i, 1)) (hv : x.isRef = true) (hl : storeLocals Ls i.val x = some L') : Rch l Z n0 R y bytes mx rt D h k n (pc + 1) L' st := r.go fun X hx b _ _ _ t q => XS.astoreN X.here hx rfl (hb b hd) rfl hv hl q
theorem iconst {i : Int} {v : Int32} (r : Rch l Z n0 R y bytes mx rt D h k n pc Ls st) (hd : decode bytes pc = .ok (.iconst i, 1)) (hv : Int32.ofInt i = v) : Rch l Z n0 R y bytes mx rt D h k n (pc + 1) Ls (.int v :: st) := by subst hv; exact r.go fun X hx b _ _ _ t q => XS.iconst X.here hx rfl (hb b hd) q
theorem bipush {i : Int} {v : Int32} (r : Rch l Z n0 R y bytes mx rt D h k n pc Ls st) (hd : decode bytes pc = .ok (.bipush i, 2)) (hv : (Int8.ofInt i).toInt32 = v) : Rch l Z n0 R y bytes mx rt D h k n (pc + 2) Ls (.int v :: st) := by subst hv; exact r.go fun X hx b _ _ _ t q => XS.bipush X.here hx rfl (hb b hd) q
theorem sipush {i : Int} {v : Int32} (r : Rch l Z n0 R y bytes mx rt D h k n pc Ls st) (hd : decode bytes pc = .ok (.sipush i, 3)) (hv : (Int16.ofInt i).toInt32 = v) : Rch l Z n0 R y bytes mx rt D h k n (pc + 3) Ls (.int v :: st) := by subst hv; exact r.go fun X hx b _ _ _ t q => XS.sipush X.here hx rfl (hb b hd) q
theorem lconst {i : Fin 2} {v : Int64} (r : Rch l Z n0 R y bytes mx rt D h k n pc Ls st) (hd : decode bytes pc = .ok (.lconst i, 1)) (hv : Int64.ofNat i = v) : Rch l Z n0 R y bytes mx rt D h k n (pc + 1) Ls (.long v :: st) := by subst hv; exact r.go fun X hx b _ _ _ t q => XT.lconst X.here hx rfl (hb b hd) q
theorem aconstNull (r : Rch l Z n0 R y bytes mx rt D h k n pc Ls st) (hd : decode bytes pc = .ok (.aconst_null, 1)) : Rch l Z n0 R y bytes mx rt D h k n (pc + 1) Ls (.null :: st) := r.go fun X hx b _ _ _ t q => XS.aconstNull X.here hx rfl (hb b hd) q
theorem dup {x : Value} (r : Rch l Z n0 R y bytes mx rt D h k n pc Ls (x :: st)) (hd : decode bytes pc = .ok (.dup, 1)) (hc : x.category = 1) : Rch l Z n0 R y bytes mx rt D h k n (pc + 1) Ls (x :: x :: st) := r.go fun X hx b _ _ _ t q => XS.dup X.here hx rfl (hb b hd) rfl hc q
theorem pop {x : Value} (r : Rch l Z n0 R y bytes mx rt D h k n pc Ls (x :: st)) (hd : decode bytes pc = .ok (.pop, 1)) (hc : x.category = 1) : Rch l Z n0 R y bytes mx rt D h k n (pc + 1) Ls st := r.go fun X hx b _ _ _ t q => XS.pop X.here hx rfl (hb b hd) rfl hc q
theorem dupX1 {x z : Value} (r : Rch l Z n0 R y bytes mx rt D h k n pc Ls (x :: z :: st)) (hd : decode bytes pc = .ok (.dup_x1, 1)) (hc : x.category = 1) (hc2 : z.category = 1) : Rch l Z n0 R y bytes mx rt D h k n (pc + 1) Ls (x :: z :: x :: st) := r.go fun X hx b _ _ _ t q => XS.dupX1 X.here hx rfl (hb b hd) rfl hc hc2 q
theorem dup2 {x z : Value} (r : Rch l Z n0 R y bytes mx rt D h k n pc Ls (x :: z :: st)) (hd : decode bytes pc = .ok (.dup2, 1)) (hc : x.category = 1) (hc2 : z.category = 1) : Rch l Z n0 R y bytes mx rt D h k n (pc + 1) Ls (x :: z :: x :: z :: st) := r.go fun X hx b _ _ _ t q => XT.dup2 X.here hx rfl (hb b hd) rfl hc hc2 q
theorem dup2L {x : Int64} (r : Rch l Z n0 R y bytes mx rt D h k n pc Ls (.long x :: st)) (hd : decode bytes pc = .ok (.dup2, 1)) : Rch l Z n0 R y bytes mx rt D h k n (pc + 1) Ls (.long x :: .long x :: st) := r.go fun X hx b _ _ _ t q => XT.dup2L X.here hx rfl (hb b hd) rfl q
theorem iadd {x z : Int32} (r : Rch l Z n0 R y bytes mx rt D h k n pc Ls (.int z :: .int x :: st)) (hd : decode bytes pc = .ok (.iadd, 1)) : Rch l Z n0 R y bytes mx rt D h k n (pc + 1) Ls (.int (x + z) :: st) := r.go fun X hx b _ _ _ t q => XS.iadd X.here hx rfl (hb b hd) rfl q
theorem isub {x z : Int32} (r : Rch l Z n0 R y bytes mx rt D h k n pc Ls (.int z :: .int x :: st)) (hd : decode bytes pc = .ok (.isub, 1)) : Rch l Z n0 R y bytes mx rt D h k n (pc + 1) Ls (.int (x - z) :: st) := r.go fun X hx b _ _ _ t q => XS.isub X.here hx rfl (hb b hd) rfl q
theorem imul {x z : Int32} (r : Rch l Z n0 R y bytes mx rt D h k n pc Ls (.int z :: .int x :: st)) (hd : decode bytes pc = .ok (.imul, 1)) : Rch l Z n0 R y bytes mx rt D h k n (pc + 1) Ls (.int (x * z) :: st) := r.go fun X hx b _ _ _ t q => XS.imul X.here hx rfl (hb b hd) rfl q
theorem iand {x z : Int32} (r : Rch l Z n0 R y bytes mx rt D h k n pc Ls (.int z :: .int x :: st)) (hd : decode bytes pc = .ok (.iand, 1)) : Rch l Z n0 R y bytes mx rt D h k n (pc + 1) Ls (.int (x &&& z) :: st) := r.go fun X hx b _ _ _ t q => XS.iand X.here hx rfl (hb b hd) rfl q
theorem ior {x z : Int32} (r : Rch l Z n0 R y bytes mx rt D h k n pc Ls (.int z :: .int x :: st)) (hd : decode bytes pc = .ok (.ior, 1)) : Rch l Z n0 R y bytes mx rt D h k n (pc + 1) Ls (.int (x ||| z) :: st) := r.go fun X hx b _ _ _ t q => XS.ior X.here hx rfl (hb b hd) rfl q
theorem ixor {x z : Int32} (r : Rch l Z n0 R y bytes mx rt D h k n pc Ls (.int z :: .int x :: st)) (hd : decode bytes pc = .ok (.ixor, 1)) : Rch l Z n0 R y bytes mx rt D h k n (pc + 1) Ls (.int (x ^^^ z) :: st) := r.go fun X hx b _ _ _ t q => XS.ixor X.here hx rfl (hb b hd) rfl q
theorem ishl {x z : Int32} (r : Rch l Z n0 R y bytes mx rt D h k n pc Ls (.int z :: .int x :: st)) (hd : decode bytes pc = .ok (.ishl, 1)) : Rch l Z n0 R y bytes mx rt D h k n (pc + 1) Ls (.int (ishlW x z) :: st) := r.go fun X hx b _ _ _ t q => XS.ishl X.here hx rfl (hb b hd) rfl q
theorem ishr {x z : Int32} (r : Rch l Z n0 R y bytes mx rt D h k n pc Ls (.int z :: .int x :: st)) (hd : decode bytes pc = .ok (.ishr, 1)) : Rch l Z n0 R y bytes mx rt D h k n (pc + 1) Ls (.int (ishrW x z) :: st) := r.go fun X hx b _ _ _ t q => XS.ishr X.here hx rfl (hb b hd) rfl q
theorem iushr {x z : Int32} (r : Rch l Z n0 R y bytes mx rt D h k n pc Ls (.int z :: .int x :: st)) (hd : decode bytes pc = .ok (.iushr, 1)) : Rch l Z n0 R y bytes mx rt D h k n (pc + 1) Ls (.int (iushrW x z) :: st) := r.go fun X hx b _ _ _ t q => XS.iushr X.here hx rfl (hb b hd) rfl q
theorem idiv {x z : Int32} (r : Rch l Z n0 R y bytes mx rt D h k n pc Ls (.int z :: .int x :: st)) (hd : decode bytes pc = .ok (.idiv, 1)) (hz : z ≠ 0) : Rch l Z n0 R y bytes mx rt D h k n (pc + 1) Ls (.int (x / z) :: st) := r.go fun X hx b _ _ _ t q => XS.idiv X.here hx rfl (hb b hd) rfl hz q
theorem irem {x z : Int32} (r : Rch l Z n0 R y bytes mx rt D h k n pc Ls (.int z :: .int x :: st)) (hd : decode bytes pc = .ok (.irem, 1)) (hz : z ≠ 0) : Rch l Z n0 R y bytes mx rt D h k n (pc + 1) Ls (.int (x % z) :: st) := r.go fun X hx b _ _ _ t q => iremM X hx rfl (hb b hd) rfl hz q
theorem ineg {x : Int32} (r : Rch l Z n0 R y bytes mx rt D h k n pc Ls (.int x :: st)) (hd : decode bytes pc = .ok (.ineg, 1)) : Rch l Z n0 R y bytes mx rt D h k n (pc + 1) Ls (.int (-x) :: st) := r.go fun X hx b _ _ _ t q => XS.ineg X.here hx rfl (hb b hd) rfl q
theorem ladd {x z : Int64} (r : Rch l Z n0 R y bytes mx rt D h k n pc Ls (.long z :: .long x :: st)) (hd : decode bytes pc = .ok (.ladd, 1)) : Rch l Z n0 R y bytes mx rt D h k n (pc + 1) Ls (.long (x + z) :: st) := r.go fun X hx b _ _ _ t q => XS.ladd X.here hx rfl (hb b hd) rfl q
theorem lsub {x z : Int64} (r : Rch l Z n0 R y bytes mx rt D h k n pc Ls (.long z :: .long x :: st)) (hd : decode bytes pc = .ok (.lsub, 1)) : Rch l Z n0 R y bytes mx rt D h k n (pc + 1) Ls (.long (x - z) :: st) := r.go fun X hx b _ _ _ t q => XS.lsub X.here hx rfl (hb b hd) rfl q
theorem lmul {x z : Int64} (r : Rch l Z n0 R y bytes mx rt D h k n pc Ls (.long z :: .long x :: st)) (hd : decode bytes pc = .ok (.lmul, 1)) : Rch l Z n0 R y bytes mx rt D h k n (pc + 1) Ls (.long (x * z) :: st) := r.go fun X hx b _ _ _ t q => XS.lmul X.here hx rfl (hb b hd) rfl q
theorem land {x z : Int64} (r : Rch l Z n0 R y bytes mx rt D h k n pc Ls (.long z :: .long x :: st)) (hd : decode bytes pc = .ok (.land, 1)) : Rch l Z n0 R y bytes mx rt D h k n (pc + 1) Ls (.long (x &&& z) :: st) := r.go fun X hx b _ _ _ t q => XS.land X.here hx rfl (hb b hd) rfl q
theorem lor {x z : Int64} (r : Rch l Z n0 R y bytes mx rt D h k n pc Ls (.long z :: .long x :: st)) (hd : decode bytes pc = .ok (.lor, 1)) : Rch l Z n0 R y bytes mx rt D h k n (pc + 1) Ls (.long (x ||| z) :: st) := r.go fun X hx b _ _ _ t q => XS.lor X.here hx rfl (hb b hd) rfl q
theorem lxor {x z : Int64} (r : Rch l Z n0 R y bytes mx rt D h k n pc Ls (.long z :: .long x :: st)) (hd : decode bytes pc = .ok (.lxor, 1)) : Rch l Z n0 R y bytes mx rt D h k n (pc + 1) Ls (.long (x ^^^ z) :: st) := r.go fun X hx b _ _ _ t q => XS.lxor X.here hx rfl (hb b hd) rfl q
theorem ldiv {x z : Int64} (r : Rch l Z n0 R y bytes mx rt D h k n pc Ls (.long z :: .long x :: st)) (hd : decode bytes pc = .ok (.ldiv, 1)) (hz : z ≠ 0) : Rch l Z n0 R y bytes mx rt D h k n (pc + 1) Ls (.long (x / z) :: st) := r.go fun X hx b _ _ _ t q => XS.ldiv X.here hx rfl (hb b hd) rfl hz q
theorem lrem {x z : Int64} (r : Rch l Z n0 R y bytes mx rt D h k n pc Ls (.long z :: .long x :: st)) (hd : decode bytes pc = .ok (.lrem, 1)) (hz : z ≠ 0) : Rch l Z n0 R y bytes mx rt D h k n (pc + 1) Ls (.long (lremW x z) :: st) := r.go fun X hx b _ _ _ t q => XS.lrem X.here hx rfl (hb b hd) rfl hz q
theorem lcmp {x z : Int64} (r : Rch l Z n0 R y bytes mx rt D h k n pc Ls (.long z :: .long x :: st)) (hd : decode bytes pc = .ok (.lcmp, 1)) : Rch l Z n0 R y bytes mx rt D h k n (pc + 1) Ls (.int (XT.cmpL x z) :: st) := r.go fun X hx b _ _ _ t q => XT.lcmp X.here hx rfl (hb b hd) rfl q
theorem lneg {x : Int64} (r : Rch l Z n0 R y bytes mx rt D h k n pc Ls (.long x :: st)) (hd : decode bytes pc = .ok (.lneg, 1)) : Rch l Z n0 R y bytes mx rt D h k n (pc + 1) Ls (.long (-x) :: st) := r.go fun X hx b _ _ _ t q => XS.lneg X.here hx rfl (hb b hd) rfl q
theorem lshl {x : Int64} {z : Int32} (r : Rch l Z n0 R y bytes mx rt D h k n pc Ls (.int z :: .long x :: st)) (hd : decode bytes pc = .ok (.lshl, 1)) : Rch l Z n0 R y bytes mx rt D h k n (pc + 1) Ls (.long (lshlW x z) :: st) := r.go fun X hx b _ _ _ t q => XS.lshl X.here hx rfl (hb b hd) rfl q
theorem lshr {x : Int64} {z : Int32} (r : Rch l Z n0 R y bytes mx rt D h k n pc Ls (.int z :: .long x :: st)) (hd : decode bytes pc = .ok (.lshr, 1)) : Rch l Z n0 R y bytes mx rt D h k n (pc + 1) Ls (.long (lshrW x z) :: st) := r.go fun X hx b _ _ _ t q => XS.lshr X.here hx rfl (hb b hd) rfl q
theorem lushr {x : Int64} {z : Int32} (r : Rch l Z n0 R y bytes mx rt D h k n pc Ls (.int z :: .long x :: st)) (hd : decode bytes pc = .ok (.lushr, 1)) : Rch l Z n0 R y bytes mx rt D h k n (pc + 1) Ls (.long (lushrW x z) :: st) := r.go fun X hx b _ _ _ t q => XS.lushr X.here hx rfl (hb b hd) rfl q
theorem i2l {x : Int32} (r : Rch l Z n0 R y bytes mx rt D h k n pc Ls (.int x :: st)) (hd : decode bytes pc = .ok (.i2l, 1)) : Rch l Z n0 R y bytes mx rt D h k n (pc + 1) Ls (.long x.toInt64 :: st) := r.go fun X hx b _ _ _ t q => XS.i2l X.here hx rfl (hb b hd) rfl q
theorem l2i {x : Int64} (r : Rch l Z n0 R y bytes mx rt D h k n pc Ls (.long x :: st)) (hd : decode bytes pc = .ok (.l2i, 1)) : Rch l Z n0 R y bytes mx rt D h k n (pc + 1) Ls (.int x.toInt32 :: st) := r.go fun X hx b _ _ _ t q => XS.l2i X.here hx rfl (hb b hd) rfl q
theorem i2b {x : Int32} (r : Rch l Z n0 R y bytes mx rt D h k n pc Ls (.int x :: st)) (hd : decode bytes pc = .ok (.i2b, 1)) : Rch l Z n0 R y bytes mx rt D h k n (pc + 1) Ls (.int (i2bW x) :: st) := r.go fun X hx b _ _ _ t q => XS.i2b X.here hx rfl (hb b hd) rfl q
theorem i2c {x : Int32} (r : Rch l Z n0 R y bytes mx rt D h k n pc Ls (.int x :: st)) (hd : decode bytes pc = .ok (.i2c, 1)) : Rch l Z n0 R y bytes mx rt D h k n (pc + 1) Ls (.int (i2cW x) :: st) := r.go fun X hx b _ _ _ t q => XS.i2c X.here hx rfl (hb b hd) rfl q
theorem i2s {x : Int32} (r : Rch l Z n0 R y bytes mx rt D h k n pc Ls (.int x :: st)) (hd : decode bytes pc = .ok (.i2s, 1)) : Rch l Z n0 R y bytes mx rt D h k n (pc + 1) Ls (.int (i2sW x) :: st) := r.go fun X hx b _ _ _ t q => XS.i2s X.here hx rfl (hb b hd) rfl q
theorem iinc {i : Nat} {cst : Int} {x v : Int32} {L' : Array Slot} (r : Rch l Z n0 R y bytes mx rt D h k n pc Ls st) (hd : decode bytes pc = .ok (.iinc i cst, 3)) (hl : Ls[i]? = some (.val (.int x))) (hv : Int32.ofInt cst = v) (hl' : storeLocals Ls i (.int (x + v)) = some L') : Rch l Z n0 R y bytes mx rt D h k n (pc + 3) L' st := by subst hv; exact r.go fun X hx b _ _ _ t q => XS.iinc X.here hx rfl (hb b hd) hl hl' q
/-! branches -/
theorem goto {o : Int} {pc' : Nat} (r : Rch l Z n0 R y bytes mx rt D h k n pc Ls st) (hd : decode bytes pc = .ok (.goto o, 3)) (ho : 0 ≤ (pc : Int) + o) (hp : ((pc : Int) + o).toNat = pc') : Rch l Z n0 R y bytes mx rt D h k n pc' Ls st := r.go fun X hx b _ _ _ t q => XS.goto X.here hx rfl (pc0 := pc) rfl (hb b hd) ho hp q
theorem ifYes {cd : ClassFile.Cond} {x : Int32} {o : Int} {pc' : Nat} (r : Rch l Z n0 R y bytes mx rt D h k n pc Ls (.int x :: st)) (hd : decode bytes pc = .ok (.ifCond cd o, 3)) (hc : ifCond.holds cd x = true) (ho : 0 ≤ (pc : Int) + o) (hp : ((pc : Int) + o).toNat = pc') : Rch l Z n0 R y bytes mx rt D h k n pc' Ls st := r.go fun X hx b _ _ _ t q => XS.ifYes X.here hx rfl (pc0 := pc) rfl (hb b hd) rfl hc ho hp q
theorem ifNo {cd : ClassFile.Cond} {x : Int32} {o : Int} (r : Rch l Z n0 R y bytes mx rt D h k n pc Ls (.int x :: st)) (hd : decode bytes pc = .ok (.ifCond cd o, 3)) (hc : ifCond.holds cd x = false) : Rch l Z n0 R y bytes mx rt D h k n (pc + 3) Ls st := r.go fun X hx b _ _ _ t q => XS.ifNo X.here hx rfl (hb b hd) rfl hc q
theorem icmpYes {cd : ClassFile.Cond} {x z : Int32} {o : Int} {pc' : Nat} (r : Rch l Z n0 R y bytes mx rt D h k n pc Ls (.int z :: .int x :: st)) (hd : decode bytes pc = .ok (.if_icmp cd o, 3)) (hc : if_icmp.holds cd x z = true) (ho : 0 ≤ (pc : Int) + o) (hp : ((pc : Int) + o).toNat = pc') : Rch l Z n0 R y bytes mx rt D h k n pc' Ls st := r.go fun X hx b _ _ _ t q => XS.icmpYes X.here hx rfl (pc0 := pc) rfl (hb b hd) rfl hc ho hp q
theorem icmpNo {cd : ClassFile.Cond} {x z : Int32} {o : Int} (r : Rch l Z n0 R y bytes mx rt D h k n pc Ls (.int z :: .int x :: st)) (hd : decode bytes pc = .ok (.if_icmp cd o, 3)) (hc : if_icmp.holds cd x z = false) : Rch l Z n0 R y bytes mx rt D h k n (pc + 3) Ls st := r.go fun X hx b _ _ _ t q => XS.icmpNo X.here hx rfl (hb b hd) rfl hc q
theorem ifnullYes {o : Int} {pc' : Nat} (r : Rch l Z n0 R y bytes mx rt D h k n pc Ls (.null :: st)) (hd : decode bytes pc = .ok (.ifnull o, 3)) (ho : 0 ≤ (pc : Int) + o) (hp : ((pc : Int) + o).toNat = pc') : Rch l Z n0 R y bytes mx rt D h k n pc' Ls st := r.go fun X hx b _ _ _ t q => XS.ifnullYes X.here hx rfl (pc0 := pc) rfl (hb b hd) rfl ho hp q
theorem ifnullNo {o : Int} {a : Addr} (r : Rch l Z n0 R y bytes mx rt D h k n pc Ls (.ref a :: st)) (hd : decode bytes pc = .ok (.ifnull o, 3)) : Rch l Z n0 R y bytes mx rt D h k n (pc + 3) Ls st := r.go fun X hx b _ _ _ t q => XS.ifnullNo X.here hx rfl (hb b hd) rfl q
theorem ifnonnullYes {o : Int} {a : Addr} {pc' : Nat} (r : Rch l Z n0 R y bytes mx rt D h k n pc Ls (.ref a :: st)) (hd : decode bytes pc = .ok (.ifnonnull o, 3)) (ho : 0 ≤ (pc : Int) + o) (hp : ((pc : Int) + o).toNat = pc') : Rch l Z n0 R y bytes mx rt D h k n pc' Ls st := r.go fun X hx b _ _ _ t q => XS.ifnonnullYes X.here hx rfl (pc0 := pc) rfl (hb b hd) rfl ho hp q
theorem ifnonnullNo {o : Int} (r : Rch l Z n0 R y bytes mx rt D h k n pc Ls (.null :: st)) (hd : decode bytes pc = .ok (.ifnonnull o, 3)) : Rch l Z n0 R y bytes mx rt D h k n (pc + 3) Ls st := r.go fun X hx b _ _ _ t q => XS.ifnonnullNo X.here hx rfl (hb b hd) rfl q
theorem acmp {cd : ClassFile.ACond} {x z : Value} {o : Int} {pc' : Nat} {same : Bool} (r : Rch l Z n0 R y bytes mx rt D h k n pc Ls (z :: x :: st)) (hd : decode bytes pc = .ok (.if_acmp cd o, 3)) (h1 : x.isRef = true) (h2 : z.isRef = true) (hq : decide (x = z) = same) (ho : 0 ≤ (pc : Int) + o) (hp : pc' = if acV cd same = true then ((pc : Int) + o).toNat else pc + 3) : Rch l Z n0 R y bytes mx rt D h k n pc' Ls st := r.go fun X hx b _ _ _ t q => Jvm.RoadKit.acmp X hx rfl h1 h2 (pc0 := pc) rfl (hb b hd) rfl hq ho hp q
/-! constants, fields, new cells -/
theorem ldcI {index : Nat} {v : Int32} (r : Rch l Z n0 R y bytes mx rt D h k n pc Ls st) (hd : decode bytes pc = .ok (.ldc index, 2)) (w : (Jvm.Cond.constant y.cls index v).before a0 Z = true) : Rch l Z n0 R y bytes mx rt D h k n (pc + 2) Ls (.int v :: st) := r.go fun X hx b hZ ho _ t q => X.ldcInt hx ho (mvT hZ w) (g := mkF _ pc Ls st) rfl (hb b hd) t q
theorem ldcJ {index : Nat} {v : Int64} (r : Rch l Z n0 R y bytes mx rt D h k n pc Ls st) (hd : decode bytes pc = .ok (.ldc2_w index, 3)) (w : (Jvm.Cond.constantLong y.cls index v).before a0 Z = true) : Rch l Z n0 R y bytes mx rt D h k n (pc + 3) Ls (.long v :: st) := r.go fun X hx b hZ ho _ t q => X.ldc2Long hx ho (mvT hZ w) (g := mkF _ pc Ls st) rfl (hb b hd) t q
theorem getfield {R0 O nm d host : String} {index : Nat} {a : Addr} {v : Value} (r : Rch l Z n0 R y bytes mx rt D h k n pc Ls (.ref a :: st)) (hd : decode bytes pc = .ok (.getfield index, 3)) (w : (Jvm.Cond.fieldLink y.cls index R0 nm d).before a0 Z = true ∨ (Jvm.Cond.fieldLinkNest y.cls index R0 nm d host).before a0 Z = true) (via : Via Z R0 O nm d) (F : Fld Z h a O nm d v) : Rch l Z n0 R y bytes mx rt D h k n (pc + 3) Ls (v :: st) := by
  obtain ⟨h', rfl, r'⟩ := r.mv (P := fun h' => h = h') (st' := fun _ => v :: st) (k' := k) (n' := n) (pc' := pc + 3) (Ls' := Ls) fun X hx b _ _ hZ ho eT N => by
    obtain ⟨T', X', e', s'⟩ := getF X hx hZ ho w via eT F (g := mkF _ pc Ls (.ref a :: st)) rfl rfl (hb b hd)
    exact ⟨T', h, _, X', e', rfl, N, s' _ (Steps.refl _)⟩
  exact r'
theorem getstatic {R0 O nm d : String} {index : Nat} {v : Value} (r : Rch l Z n0 R y bytes mx rt D h k n pc Ls st) (hd : decode bytes pc = .ok (.getstatic index, 3)) (w : (Jvm.Cond.fieldLink y.cls index R0 nm d).before a0 Z = true) (via : Via Z R0 O nm d) (F : Sta Z h O nm d v) : Rch l Z n0 R y bytes mx rt D h k n (pc + 3) Ls (v :: st) := by
  obtain ⟨h', rfl, r'⟩ := r.mv (P := fun h' => h = h') (st' := fun _ => v :: st) (k' := k) (n' := n) (pc' := pc + 3) (Ls' := Ls) fun X hx b _ _ hZ ho eT N => by
    obtain ⟨T', X', e', s'⟩ := getS X hx hZ (host := "") ho w via eT F (g := mkF _ pc Ls st) rfl (hb b hd)
    exact ⟨T', h, _, X', e', rfl, N, s' _ (Steps.refl _)⟩
  exact r'
theorem putfield {R0 O nm d host C : String} {index kk : Nat} {ty : FieldType} {a : Addr} {v old : Value} (r : Rch l Z n0 R y bytes mx rt D h k n pc Ls (v :: .ref a :: st)) (hd : decode bytes pc = .ok (.putfield index, 3)) (w : (Jvm.Cond.fieldLink y.cls index R0 nm d).before a0 Z = true ∨ (Jvm.Cond.fieldLinkNest y.cls index R0 nm d host).before a0 Z = true) (via : Via Z R0 O nm d) (F : Fld Z h a O nm d old) (E : Exa Z h a C)
    (L : (Jvm.Cond.lays C O nm d).before a0 Z = true ∨ ((Jvm.Cond.laysFinal C O nm d).before a0 Z = true ∧ y.cls = O ∧ y.name = "<init>")) (wi : (Jvm.Cond.instantiable C kk).before a0 Z = true) (hty : parseFieldDescriptor d = some ty) (hn : narrow ty v = v) (hf : fits ty v = true) (hg : n0 ≤ a) :
    ∃ h', Wr h h' a (Jvm.RoadKit.slotOf Z O nm d) v ∧ Rch l Z n0 R y bytes mx rt D h' k n (pc + 3) Ls st :=
  r.mv (P := fun h' => Wr h h' a (Jvm.RoadKit.slotOf Z O nm d) v) (st' := fun _ => st) fun X hx b _ hnm hZ ho eT N => by
    obtain ⟨T', h', X', e', W, s'⟩ := putF X hx hZ ho w via eT F E (L.imp id fun q => ⟨q.1, q.2.1, hnm.trans q.2.2⟩) wi hty hn hf (g := mkF _ pc Ls (v :: .ref a :: st)) rfl rfl (hb b hd)
    exact ⟨T', h', _, X', e', W, Fr.snoc X' N hg, s' _ (Steps.refl _)⟩
theorem newObj {C : String} {index nn : Nat} (r : Rch l Z n0 R y bytes mx rt D h k n pc Ls st) (hd : decode bytes pc = .ok (.new index, 3)) (w : (Jvm.Cond.classLink y.cls index C).before a0 Z = true) (wi : (Jvm.Cond.instantiable C nn).before a0 Z = true) (wz : (Jvm.Cond.initialized C).before a0 Z = true) (hc : k + 1 ≤ R.cells) (hl : n + nn ≤ R.slots) :
    ∃ h', (Ext h h' ∧ Exa Z h' h.size C ∧ ∀ {O nm d : String} {ty : FieldType}, Laid Z a0 C O nm d → parseFieldDescriptor d = some ty → Fld Z h' h.size O nm d (defaultValue ty)) ∧ Rch l Z n0 R y bytes mx rt D h' (k + 1) (n + nn) (pc + 3) Ls (.ref h.size :: st) :=
  r.mv (P := fun h' => Ext h h' ∧ Exa Z h' h.size C ∧ ∀ {O nm d : String} {ty : FieldType}, Laid Z a0 C O nm d → parseFieldDescriptor d = some ty → Fld Z h' h.size O nm d (defaultValue ty)) (st' := fun _ => .ref h.size :: st) fun X hx b _ _ hZ ho eT N => by
    obtain ⟨T', h', X', e', E', A', D', -, s'⟩ := newO X hx hZ ho w wi wz eT (g := mkF _ pc Ls st) rfl (hb b hd) hc hl
    exact ⟨T', h', _, X', e', ⟨E', A', D'⟩, N, s' _ (Steps.refl _)⟩
theorem initObj {index : Nat} {a : Addr} {W : Nat} (r : Rch l Z n0 R y bytes mx rt D h k n pc Ls (.ref a :: st)) (hd : decode bytes pc = .ok (.invokespecial index, 3)) (w1 : (Jvm.Cond.methodLink y.cls index Lib.objectInit).before a0 Z = true) (w2 : (Jvm.Cond.instanceMethod Lib.objectInit).before a0 Z = true) (w3 : (Jvm.Cond.code Lib.objectInit ⟨#[0xb1]⟩ 1 none).before a0 Z = true) (hsz : Ls.size = mx) (hf : 1 ≤ R.frames) (hW : (st.map fun v => v.category).sum ≤ W) (hl : W + 12 ≤ R.locals) : Rch l Z n0 R y bytes mx rt D h k n (pc + 3) Ls st := by
  obtain ⟨h', rfl, r'⟩ := r.mv (P := fun h' => h = h') (st' := fun _ => st) (k' := k) (n' := n) (pc' := pc + 3) (Ls' := Ls) fun X hx b hml _ hZ ho eT N => by
    obtain ⟨T', X', e', s'⟩ := initO X hx hZ ho w1 w2 w3 eT (g := mkF _ pc Ls (.ref a :: st)) rfl (hsz.trans hml.symm) rfl (hb b hd) hf (W := W) (by show 2 * 0 + _ ≤ _; omega) hl
    exact ⟨T', h, _, X', e', rfl, N, s' _ (Steps.refl _)⟩
  exact r'
/-! arrays: their elements as a list -/
def VA (Z : State) (h : Heap) (a : Addr) (ty : FieldType) (vs : List Value) : Prop := ∃ c : Cell, Arr Z h a c ty ∧ c.slots = vs.toArray ∧ vs.length < 2 ^ 31
section Facts
variable {a b : Addr} {ty : FieldType} {vs : List Value} {sl : Nat} {v : Value} {ws : List Addr}
theorem VA.lt (A : VA Z h a ty vs) : a < h.size := by obtain ⟨c, A, -⟩ := A; exact A.lt
theorem VA.len (A : VA Z h a ty vs) : vs.length < 2 ^ 31 := by obtain ⟨c, -, -, q⟩ := A; exact q
theorem VA.ext (A : VA Z h a ty vs) (E : Ext h h') : VA Z h' a ty vs := by obtain ⟨c, A, r⟩ := A; exact ⟨c, A.ext E, r⟩
theorem VA.other (A : VA Z h b ty vs) (W : Wr h h' a sl v) (q : b ≠ a) : VA Z h' b ty vs := by obtain ⟨c, A, r⟩ := A; exact ⟨c, A.other W q, r⟩
theorem VA.keep (A : VA Z h a ty vs) (K : Keep h h' ws) (q : a ∉ ws) : VA Z h' a ty vs := by obtain ⟨c, A, r⟩ := A; exact ⟨c, ⟨K.2.1 a c A.1 q, A.2⟩, r⟩
theorem VA.set (A : VA Z h a ty vs) (W : Wr h h' a sl v) : VA Z h' a ty (vs.set sl v) := by
  obtain ⟨c, A, e, q⟩ := A
  refine ⟨c.setSlot sl v, A.same W, ?_, by simpa using q⟩
  show c.slots.setIfInBounds sl v = _
  rw [e]; simp
theorem VA.new {cA : ClassId} {z : Int32} (A : Arr Z h a (newA cA ty z) ty) (q : ¬ z < 0) : VA Z h a ty (List.replicate z.toNatClampNeg (defaultValue ty)) := by
  refine ⟨_, A, ?_, ?_⟩
  · simp [newA]
  · rw [List.length_replicate]; exact (back32 q).2
theorem VA.inb (A : VA Z h a ty vs) {j : Int32} (hj : ¬ j < 0) (hlt : j.toNatClampNeg < vs.length) : ∃ c, Arr Z h a c ty ∧ c.slots = vs.toArray ∧ ¬ (j < 0 ∨ c.slots.size ≤ j.toNatClampNeg) := by
  obtain ⟨c, A, e, -⟩ := A
  exact ⟨c, A, e, fun q => q.elim hj fun q => by rw [e] at q; simp at q; omega⟩
theorem ne_lt {x z : Addr} {H : Heap} (p : x < H.size) (q : z = H.size) : x ≠ z := fun e => by rw [e, q] at p; exact Nat.lt_irrefl _ p
end Facts
theorem newArr {aty : ArrayType} {z : Int32} {cap : Nat} (r : Rch l Z n0 R y bytes mx rt D h k n pc Ls (.int z :: st)) (hd : decode bytes pc = .ok (.newarray aty, 2)) (w : (Jvm.Cond.arrayClass (newarray.typeOf aty)).before a0 Z = true) (hz : ¬ z < 0) (hcap : z.toNatClampNeg ≤ cap) (h8 : cap * 8 ≤ 536870912) (hc : k + 1 ≤ R.cells) (hl : n + cap ≤ R.slots) :
    ∃ h', (Ext h h' ∧ VA Z h' h.size (newarray.typeOf aty) (List.replicate z.toNatClampNeg (defaultValue (newarray.typeOf aty)))) ∧ Rch l Z n0 R y bytes mx rt D h' (k + 1) (n + cap) (pc + 2) Ls (.ref h.size :: st) :=
  r.mv (P := fun h' => Ext h h' ∧ VA Z h' h.size (newarray.typeOf aty) (List.replicate z.toNatClampNeg (defaultValue (newarray.typeOf aty)))) (st' := fun _ => .ref h.size :: st) fun X hx b _ _ hZ ho eT N => by
    obtain ⟨T', h', cA, X', e', E', A', s'⟩ := newP X hx hZ w eT (g := mkF _ pc Ls (.int z :: st)) rfl (hb b hd) rfl hz hcap h8 hc hl
    exact ⟨T', h', _, X', e', ⟨E', VA.new A' hz⟩, N, s' _ (Steps.refl _)⟩
theorem arrlen {a : Addr} {ty : FieldType} {vs : List Value} {z : Int32} (r : Rch l Z n0 R y bytes mx rt D h k n pc Ls (.ref a :: st)) (hd : decode bytes pc = .ok (.arraylength, 1)) (A : VA Z h a ty vs) (hz : vs.length.toInt32 = z) : Rch l Z n0 R y bytes mx rt D h k n (pc + 1) Ls (.int z :: st) := by
  subst hz
  obtain ⟨c, A, e, -⟩ := A
  have q : vs.length = c.slots.size := by rw [e]; simp
  rw [q]
  exact r.go fun X hx b hZ _ eT t q => X.arraylength hx (by rw [eT]; exact A.1) (State.isArrayOf_alike hZ.alike A.2.1) (g := mkF _ pc Ls (.ref a :: st)) rfl rfl (hb b hd) t q
theorem iaload {a : Addr} {vs : List Value} {j : Int32} {v : Value} (r : Rch l Z n0 R y bytes mx rt D h k n pc Ls (.int j :: .ref a :: st)) (hd : decode bytes pc = .ok (.iaload, 1)) (A : VA Z h a .int vs) (hj : ¬ j < 0) (hv : vs[j.toNatClampNeg]? = some v) : Rch l Z n0 R y bytes mx rt D h k n (pc + 1) Ls (v :: st) := by
  obtain ⟨c, A, e, hi⟩ := A.inb hj (List.getElem?_eq_some_iff.mp hv).1
  exact r.go fun X hx b hZ _ eT t q => X.iaload hx (j := j) (v := v) (by rw [eT]; exact A.1) (State.isArrayOf_alike hZ.alike A.2.1) A.2.2 hi (by rw [e]; simpa using hv) (g := mkF _ pc Ls (.int j :: .ref a :: st)) rfl rfl (hb b hd) t q
theorem laload {a : Addr} {vs : List Value} {j : Int32} {v : Value} (r : Rch l Z n0 R y bytes mx rt D h k n pc Ls (.int j :: .ref a :: st)) (hd : decode bytes pc = .ok (.laload, 1)) (A : VA Z h a .long vs) (hj : ¬ j < 0) (hv : vs[j.toNatClampNeg]? = some v) : Rch l Z n0 R y bytes mx rt D h k n (pc + 1) Ls (v :: st) := by
  obtain ⟨c, A, e, hi⟩ := A.inb hj (List.getElem?_eq_some_iff.mp hv).1
  exact r.go fun X hx b hZ _ eT t q => X.laload hx (j := j) (v := v) (by rw [eT]; exact A.1) (State.isArrayOf_alike hZ.alike A.2.1) A.2.2 hi (by rw [e]; simpa using hv) (g := mkF _ pc Ls (.int j :: .ref a :: st)) rfl rfl (hb b hd) t q
theorem caload {a : Addr} {vs : List Value} {j : Int32} {v : Value} (r : Rch l Z n0 R y bytes mx rt D h k n pc Ls (.int j :: .ref a :: st)) (hd : decode bytes pc = .ok (.caload, 1)) (A : VA Z h a .char vs) (hj : ¬ j < 0) (hv : vs[j.toNatClampNeg]? = some v) : Rch l Z n0 R y bytes mx rt D h k n (pc + 1) Ls (v :: st) := by
  obtain ⟨c, A, e, hi⟩ := A.inb hj (List.getElem?_eq_some_iff.mp hv).1
  exact r.go fun X hx b hZ _ eT t q => X.caload hx (j := j) (v := v) (by rw [eT]; exact A.1) (State.isArrayOf_alike hZ.alike A.2.1) A.2.2 hi (by rw [e]; simpa using hv) (g := mkF _ pc Ls (.int j :: .ref a :: st)) rfl rfl (hb b hd) t q
theorem baload {a : Addr} {vs : List Value} {j : Int32} {v : Value} (r : Rch l Z n0 R y bytes mx rt D h k n pc Ls (.int j :: .ref a :: st)) (hd : decode bytes pc = .ok (.baload, 1)) (A : VA Z h a .byte vs) (hj : ¬ j < 0) (hv : vs[j.toNatClampNeg]? = some v) : Rch l Z n0 R y bytes mx rt D h k n (pc + 1) Ls (v :: st) := by
  obtain ⟨c, A, e, hi⟩ := A.inb hj (List.getElem?_eq_some_iff.mp hv).1
  exact r.go fun X hx b hZ _ eT t q => X.baloadBytes hx (j := j) (v := v) (by rw [eT]; exact A.1) (State.isArrayOf_alike hZ.alike A.2.1) A.2.2 hi (by rw [e]; simpa using hv) (g := mkF _ pc Ls (.int j :: .ref a :: st)) rfl rfl (hb b hd) t q
theorem zaload {a : Addr} {vs : List Value} {j : Int32} {v : Value} (r : Rch l Z n0 R y bytes mx rt D h k n pc Ls (.int j :: .ref a :: st)) (hd : decode bytes pc = .ok (.baload, 1)) (A : VA Z h a .boolean vs) (hj : ¬ j < 0) (hv : vs[j.toNatClampNeg]? = some v) : Rch l Z n0 R y bytes mx rt D h k n (pc + 1) Ls (v :: st) := by
  obtain ⟨c, A, e, hi⟩ := A.inb hj (List.getElem?_eq_some_iff.mp hv).1
  exact r.go fun X hx b hZ _ eT t q => X.baloadBooleans hx (j := j) (v := v) (by rw [eT]; exact A.1) (State.isArrayOf_alike hZ.alike A.2.1) A.2.2 hi (by rw [e]; simpa using hv) (g := mkF _ pc Ls (.int j :: .ref a :: st)) rfl rfl (hb b hd) t q
theorem iastore {a : Addr} {vs : List Value} {j : Int32} {x : Int32} (r : Rch l Z n0 R y bytes mx rt D h k n pc Ls (.int x :: .int j :: .ref a :: st)) (hd : decode bytes pc = .ok (.iastore, 1)) (A : VA Z h a .int vs) (hj : ¬ j < 0) (hlt : j.toNatClampNeg < vs.length) (hg : n0 ≤ a) :
    ∃ h', (Wr h h' a j.toNatClampNeg (.int x) ∧ VA Z h' a .int (vs.set j.toNatClampNeg (.int x))) ∧ Rch l Z n0 R y bytes mx rt D h' k n (pc + 1) Ls st :=
  r.mv (P := fun h' => Wr h h' a j.toNatClampNeg (.int x) ∧ VA Z h' a .int (vs.set j.toNatClampNeg (.int x))) (st' := fun _ => st) fun X hx b _ _ hZ ho eT N => by
    obtain ⟨c, A', e, hi⟩ := A.inb hj hlt
    obtain ⟨T', h', X', e', W, s'⟩ := stI X hx hZ eT A' (j := j) hi (g := mkF _ pc Ls (.int x :: .int j :: .ref a :: st)) rfl rfl (hb b hd)
    exact ⟨T', h', _, X', e', ⟨W, A.set W⟩, Fr.snoc X' N hg, s' _ (Steps.refl _)⟩
theorem lastore {a : Addr} {vs : List Value} {j : Int32} {x : Int64} (r : Rch l Z n0 R y bytes mx rt D h k n pc Ls (.long x :: .int j :: .ref a :: st)) (hd : decode bytes pc = .ok (.lastore, 1)) (A : VA Z h a .long vs) (hj : ¬ j < 0) (hlt : j.toNatClampNeg < vs.length) (hg : n0 ≤ a) :
    ∃ h', (Wr h h' a j.toNatClampNeg (.long x) ∧ VA Z h' a .long (vs.set j.toNatClampNeg (.long x))) ∧ Rch l Z n0 R y bytes mx rt D h' k n (pc + 1) Ls st :=
  r.mv (P := fun h' => Wr h h' a j.toNatClampNeg (.long x) ∧ VA Z h' a .long (vs.set j.toNatClampNeg (.long x))) (st' := fun _ => st) fun X hx b _ _ hZ ho eT N => by
    obtain ⟨c, A', e, hi⟩ := A.inb hj hlt
    obtain ⟨T', h', X', e', W, s'⟩ := stJ X hx hZ eT A' (j := j) hi (g := mkF _ pc Ls (.long x :: .int j :: .ref a :: st)) rfl rfl (hb b hd)
    exact ⟨T', h', _, X', e', ⟨W, A.set W⟩, Fr.snoc X' N hg, s' _ (Steps.refl _)⟩
theorem castore {a : Addr} {vs : List Value} {j : Int32} {x : Int32} (r : Rch l Z n0 R y bytes mx rt D h k n pc Ls (.int x :: .int j :: .ref a :: st)) (hd : decode bytes pc = .ok (.castore, 1)) (A : VA Z h a .char vs) (hj : ¬ j < 0) (hlt : j.toNatClampNeg < vs.length) (hg : n0 ≤ a) :
    ∃ h', (Wr h h' a j.toNatClampNeg (.int (nar .char x)) ∧ VA Z h' a .char (vs.set j.toNatClampNeg (.int (nar .char x)))) ∧ Rch l Z n0 R y bytes mx rt D h' k n (pc + 1) Ls st :=
  r.mv (P := fun h' => Wr h h' a j.toNatClampNeg (.int (nar .char x)) ∧ VA Z h' a .char (vs.set j.toNatClampNeg (.int (nar .char x)))) (st' := fun _ => st) fun X hx b _ _ hZ ho eT N => by
    obtain ⟨c, A', e, hi⟩ := A.inb hj hlt
    obtain ⟨T', h', X', e', W, s'⟩ := stC X hx hZ eT A' (j := j) hi (g := mkF _ pc Ls (.int x :: .int j :: .ref a :: st)) rfl rfl (hb b hd)
    exact ⟨T', h', _, X', e', ⟨W, A.set W⟩, Fr.snoc X' N hg, s' _ (Steps.refl _)⟩
theorem bastore {a : Addr} {vs : List Value} {j : Int32} {x : Int32} (r : Rch l Z n0 R y bytes mx rt D h k n pc Ls (.int x :: .int j :: .ref a :: st)) (hd : decode bytes pc = .ok (.bastore, 1)) (A : VA Z h a .byte vs) (hj : ¬ j < 0) (hlt : j.toNatClampNeg < vs.length) (hg : n0 ≤ a) :
    ∃ h', (Wr h h' a j.toNatClampNeg (.int (nar .byte x)) ∧ VA Z h' a .byte (vs.set j.toNatClampNeg (.int (nar .byte x)))) ∧ Rch l Z n0 R y bytes mx rt D h' k n (pc + 1) Ls st :=
  r.mv (P := fun h' => Wr h h' a j.toNatClampNeg (.int (nar .byte x)) ∧ VA Z h' a .byte (vs.set j.toNatClampNeg (.int (nar .byte x)))) (st' := fun _ => st) fun X hx b _ _ hZ ho eT N => by
    obtain ⟨c, A', e, hi⟩ := A.inb hj hlt
    obtain ⟨T', h', X', e', W, s'⟩ := stB X hx hZ eT A' (j := j) hi (g := mkF _ pc Ls (.int x :: .int j :: .ref a :: st)) rfl rfl (hb b hd)
    exact ⟨T', h', _, X', e', ⟨W, A.set W⟩, Fr.snoc X' N hg, s' _ (Steps.refl _)⟩
theorem zastore {a : Addr} {vs : List Value} {j : Int32} {x : Int32} (r : Rch l Z n0 R y bytes mx rt D h k n pc Ls (.int x :: .int j :: .ref a :: st)) (hd : decode bytes pc = .ok (.bastore, 1)) (A : VA Z h a .boolean vs) (hj : ¬ j < 0) (hlt : j.toNatClampNeg < vs.length) (hg : n0 ≤ a) :
    ∃ h', (Wr h h' a j.toNatClampNeg (.int (nar .boolean x)) ∧ VA Z h' a .boolean (vs.set j.toNatClampNeg (.int (nar .boolean x)))) ∧ Rch l Z n0 R y bytes mx rt D h' k n (pc + 1) Ls st :=
  r.mv (P := fun h' => Wr h h' a j.toNatClampNeg (.int (nar .boolean x)) ∧ VA Z h' a .boolean (vs.set j.toNatClampNeg (.int (nar .boolean x)))) (st' := fun _ => st) fun X hx b _ _ hZ ho eT N => by
    obtain ⟨c, A', e, hi⟩ := A.inb hj hlt
    obtain ⟨T', h', X', e', W, s'⟩ := stZ X hx hZ eT A' (j := j) hi (g := mkF _ pc Ls (.int x :: .int j :: .ref a :: st)) rfl rfl (hb b hd)
    exact ⟨T', h', _, X', e', ⟨W, A.set W⟩, Fr.snoc X' N hg, s' _ (Steps.refl _)⟩
/-! the end -/
theorem Rch.ret0 (r : Rch l Z n0 R y bytes mx none D h k n pc Ls []) (hd : decode bytes pc = .ok (.return_, 1)) : Don l Z n0 R D h k n none := by
  obtain ⟨p, e, s, m, args, below, meth, c, s₁, g0⟩ := D
  obtain ⟨⟨hx, hbb, hml, ho, hZ, hr, hlk, hnm⟩, T, locs, X, eT, N, hs⟩ := r
  obtain ⟨fs, hl, hrun, hended, hW, hsame⟩ := X.leave (v := none) (fun _ => rfl) hlk
  exact ⟨T, locs, fs, X, eT, N, hs.trans (X.returnOut hx hr (hb hbb hd) hl), eT, hrun, hended, hW, hsame⟩
theorem Rch.retV {i : Instr} {t : FieldType} {w : Value} (r : Rch l Z n0 R y bytes mx (some t) D h k n pc Ls (w :: st)) (hd : decode bytes pc = .ok (i, 1)) (hn : narrow t w = w)
    (hi : (i = .ireturn ∧ (t = .int ∨ t = .boolean ∨ t = .byte ∨ t = .char ∨ t = .short) ∧ ∃ z, w = .int z) ∨ (i = .lreturn ∧ t = .long ∧ ∃ z, w = .long z) ∨ (i = .dreturn ∧ t = .double ∧ ∃ z, w = .double z) ∨ (i = .freturn ∧ t = .float ∧ ∃ z, w = .float z) ∨ (i = .areturn ∧ t.isReference = true ∧ w.isRef = true)) : Don l Z n0 R D h k n (some w) := by
  obtain ⟨p, e, s, m, args, below, meth, c, s₁, g0⟩ := D
  obtain ⟨⟨hx, hbb, hml, ho, hZ, hr, hlk, hnm⟩, T, locs, X, eT, N, hs⟩ := r
  obtain ⟨fs, hl, hrun, hended, hW, hsame⟩ := X.leave (v := some w) (fun q => by rw [hr] at q; cases q) hlk
  exact ⟨T, locs, fs, X, eT, N, hs.trans (retOut X hx hr hn hi (hb hbb hd) hl), eT, hrun, hended, hW, hsame⟩
theorem Rch.retI {z : Int32} (r : Rch l Z n0 R y bytes mx (some .int) D h k n pc Ls (.int z :: st)) (hd : decode bytes pc = .ok (.ireturn, 1)) : Don l Z n0 R D h k n (some (.int z)) := r.retV hd rfl (Or.inl ⟨rfl, Or.inl rfl, z, rfl⟩)
theorem Rch.retJ {z : Int64} (r : Rch l Z n0 R y bytes mx (some .long) D h k n pc Ls (.long z :: st)) (hd : decode bytes pc = .ok (.lreturn, 1)) : Don l Z n0 R D h k n (some (.long z)) := r.retV hd rfl (Or.inr (Or.inl ⟨rfl, rfl, z, rfl⟩))
theorem Rch.retZ {z : Int32} (r : Rch l Z n0 R y bytes mx (some .boolean) D h k n pc Ls (.int z :: st)) (hd : decode bytes pc = .ok (.ireturn, 1)) (hz : z &&& 1 = z) : Don l Z n0 R D h k n (some (.int z)) := r.retV hd (congrArg Value.int hz) (Or.inl ⟨rfl, Or.inr (Or.inl rfl), z, rfl⟩)
theorem Rch.retB {z : Int32} (r : Rch l Z n0 R y bytes mx (some .byte) D h k n pc Ls (.int z :: st)) (hd : decode bytes pc = .ok (.ireturn, 1)) (hz : z.toInt8.toInt32 = z) : Don l Z n0 R D h k n (some (.int z)) := r.retV hd (congrArg Value.int hz) (Or.inl ⟨rfl, Or.inr (Or.inr (Or.inl rfl)), z, rfl⟩)
theorem Rch.retA {t : FieldType} {w : Value} (r : Rch l Z n0 R y bytes mx (some t) D h k n pc Ls (w :: st)) (hd : decode bytes pc = .ok (.areturn, 1)) (ht : t.isReference = true) (hw : w.isRef = true) : Don l Z n0 R D h k n (some w) := r.retV hd (by rcases ref_cases hw with rfl | ⟨q, rfl⟩ <;> cases t <;> first | rfl | cases ht) (Or.inr (Or.inr (Or.inr (Or.inr ⟨rfl, ht, hw⟩))))
theorem Don.more {v : Option Value} (r : Don l Z n0 R D h k n v) {k' n' : Nat} (hk : k ≤ k') (hn : n ≤ n') : Don l Z n0 R D h k' n' v := by
  obtain ⟨p, e, s, m, args, below, meth, c, s₁, g0⟩ := D
  obtain ⟨T, locs, fs, X, eT, N, hs, hh, hrun, hend, hW, hsame⟩ := r
  exact ⟨T, locs, fs, X.more hk hn, eT, N, hs, hh, hrun, hend, hW, hsame.mono hk hn⟩
/-! calls -/
section Calls
variable {index : Nat} {y' : MethodName} {bytes' : ByteArray} {mx' : Nat} {rt' : Option FieldType} {rm : Room} {as' : Array Value} {Q : Option Value → Heap → Prop} {W : Nat} {rest : List Value}
theorem callS (argsL : List Value) (r : Rch l Z n0 R y bytes mx rt D h k n pc Ls st) (hd : decode bytes pc = .ok (.invokestatic index, 3)) (K : Con l Z n0 y' bytes' mx' rt' rm as' h Q) (w1 : (Jvm.Cond.methodLink y.cls index y').before a0 Z = true) (w2 : (Jvm.Cond.static y').before a0 Z = true) (w3 : (Jvm.Cond.initialized y'.cls).before a0 Z = true) (w4 : (Jvm.Cond.code y' bytes' mx' rt').before a0 Z = true)
    (hlen : ∀ sig, parseMethodDescriptor y'.desc = some sig → argsL.length = sig.parameters.length) (has : argsL.toArray = as') (hst : st = argsL.reverse ++ rest) (hW : (rest.map fun v => v.category).sum ≤ W) (hsz : Ls.size = mx) (hy : y'.cls ≠ "java/lang/invoke/MethodHandle" ∧ y'.cls ≠ "java/lang/invoke/VarHandle") (hf : rm.frames + 1 ≤ R.frames) (hlo : W + (mx' + 11) + rm.locals ≤ R.locals) (hc : k + rm.cells ≤ R.cells) (hs : n + rm.slots ≤ R.slots) :
    ∃ v h', Q v h' ∧ Rch l Z n0 R y bytes mx rt D h' (k + rm.cells) (n + rm.slots) (pc + 3) Ls (v.toList ++ rest) := by
  obtain ⟨p, e, s, m, args, below, meth, c, s₁, g0⟩ := D
  obtain ⟨hB, T, locs, X, eT, N, hs0⟩ := r
  obtain ⟨hx, hbb, hml, ho, hZ, hr, hlk, hnm⟩ := id hB
  subst hst
  obtain ⟨v, vm₁, ⟨T', L', k', n'⟩, -, X', ⟨Lc, ⟨N', hQ⟩, l1, y1, z1⟩, s'⟩ := Jvm.LawKit.callS X hx (y := y') ho (mvT hZ w1) (mvT hZ w2) (mvT hZ w3) (mvT hZ w4) hy (backOf (W := W) (Q := fun v h L => Fr n0 L ∧ Q v h) (K []) hZ w4 w3 hf hlo) (g := mkF m pc Ls (argsL.reverse ++ rest)) rfl (hsz.trans hml.symm) (argsL := argsL) (rest := rest) hlen rfl (by show 2 * 0 + _ ≤ _; omega) (hb hbb hd) (fun _ _ => ⟨has, eT, hc, hs⟩)
  dsimp only [Pt.U, Pt.locs, Pt.cells, Pt.slots] at X' l1 y1 z1 s' hQ
  subst l1 y1 z1
  exact ⟨v, T'.heap, hQ, hB, T', _, X', rfl, Fr.app N N', hs0.trans (s' _ (Steps.refl _))⟩
theorem callI {a : Addr} (argsL : List Value) (r : Rch l Z n0 R y bytes mx rt D h k n pc Ls st) (hd : decode bytes pc = .ok (.invokespecial index, 3)) (K : Con l Z n0 y' bytes' mx' none rm as' h Q) (w1 : (Jvm.Cond.methodLink y.cls index y').before a0 Z = true) (w2 : (Jvm.Cond.instanceMethod y').before a0 Z = true) (w3 : (Jvm.Cond.initialized y'.cls).before a0 Z = true) (w4 : (Jvm.Cond.code y' bytes' mx' none).before a0 Z = true) (hin : y'.name = "<init>")
    (hlen : ∀ sig, parseMethodDescriptor y'.desc = some sig → argsL.length = sig.parameters.length) (has : (.ref a :: argsL).toArray = as') (hst : st = argsL.reverse ++ .ref a :: rest) (hW : (rest.map fun v => v.category).sum ≤ W) (hsz : Ls.size = mx) (hy : y'.cls ≠ "java/lang/invoke/MethodHandle" ∧ y'.cls ≠ "java/lang/invoke/VarHandle") (hf : rm.frames + 1 ≤ R.frames) (hlo : W + (mx' + 11) + rm.locals ≤ R.locals) (hc : k + rm.cells ≤ R.cells) (hs : n + rm.slots ≤ R.slots) :
    ∃ v h', Q v h' ∧ Rch l Z n0 R y bytes mx rt D h' (k + rm.cells) (n + rm.slots) (pc + 3) Ls (v.toList ++ rest) := by
  obtain ⟨p, e, s, m, args, below, meth, c, s₁, g0⟩ := D
  obtain ⟨hB, T, locs, X, eT, N, hs0⟩ := r
  obtain ⟨hx, hbb, hml, ho, hZ, hr, hlk, hnm⟩ := id hB
  subst hst
  obtain ⟨v, vm₁, ⟨T', L', k', n'⟩, -, X', ⟨Lc, ⟨N', hQ⟩, l1, y1, z1⟩, s'⟩ := X.specialBack hx (y := y') hin ho (mvT hZ w1) (mvT hZ w2) (mvT hZ w4) hy (backOf (W := W) (Q := fun v h L => Fr n0 L ∧ Q v h) (K []) hZ w4 w3 hf hlo) (g := mkF m pc Ls (argsL.reverse ++ .ref a :: rest)) rfl (hsz.trans hml.symm) (Steps.refl _) (a := a) (argsL := argsL) (rest := rest) hlen rfl (by show 2 * 0 + _ ≤ _; omega) (hb hbb hd) (fun _ _ => ⟨has, eT, hc, hs⟩)
  dsimp only [Pt.U, Pt.locs, Pt.cells, Pt.slots] at X' l1 y1 z1 s' hQ
  subst l1 y1 z1
  exact ⟨v, T'.heap, hQ, hB, T', _, X', rfl, Fr.app N N', hs0.trans s'⟩
theorem callV {a : Addr} {yr : MethodName} {C : String} (argsL : List Value) (r : Rch l Z n0 R y bytes mx rt D h k n pc Ls st) (hd : decode bytes pc = .ok (.invokevirtual index, 3)) (K : Con l Z n0 y' bytes' mx' rt' rm as' h Q) (E : Exa Z h a C) (w1 : (Jvm.Cond.methodLink y.cls index yr).before a0 Z = true) (w2 : (Jvm.Cond.declares yr).before a0 Z = true) (nf : ∀ s : State, Z.Warmed39 s.vm → NotFace s yr) (w5 : (Jvm.Cond.selects C yr y').before a0 Z = true) (w6 : (Jvm.Cond.instanceMethod y').before a0 Z = true) (w3 : (Jvm.Cond.initialized y'.cls).before a0 Z = true) (w4 : (Jvm.Cond.code y' bytes' mx' rt').before a0 Z = true)
    (hlen : ∀ sig, parseMethodDescriptor yr.desc = some sig → argsL.length = sig.parameters.length) (has : (.ref a :: argsL).toArray = as') (hst : st = argsL.reverse ++ .ref a :: rest) (hW : (rest.map fun v => v.category).sum ≤ W) (hsz : Ls.size = mx) (hy : yr.cls ≠ "java/lang/invoke/MethodHandle" ∧ yr.cls ≠ "java/lang/invoke/VarHandle") (hf : rm.frames + 1 ≤ R.frames) (hlo : W + (mx' + 11) + rm.locals ≤ R.locals) (hc : k + rm.cells ≤ R.cells) (hs : n + rm.slots ≤ R.slots) :
    ∃ v h', Q v h' ∧ Rch l Z n0 R y bytes mx rt D h' (k + rm.cells) (n + rm.slots) (pc + 3) Ls (v.toList ++ rest) := by
  obtain ⟨p, e, s, m, args, below, meth, c, s₁, g0⟩ := D
  obtain ⟨hB, T, locs, X, eT, N, hs0⟩ := r
  obtain ⟨hx, hbb, hml, ho, hZ, hr, hlk, hnm⟩ := id hB
  subst hst
  obtain ⟨cq, kq, qa, qb, qc⟩ := isOf hZ eT E
  obtain ⟨v, vm₁, ⟨T', L', k', n'⟩, -, X', ⟨Lc, ⟨N', hQ⟩, l1, y1, z1⟩, s'⟩ := X.virtualBack hx (y := yr) (z := y') ho (mvT hZ w1) (mvT hZ w2) (nf s hZ) (mvT hZ w5) (mvT hZ w6) hy (backOf (W := W) (Q := fun v h L => Fr n0 L ∧ Q v h) (K []) hZ w4 w3 hf hlo) qa qc (g := mkF m pc Ls (argsL.reverse ++ .ref a :: rest)) rfl (hsz.trans hml.symm) (Steps.refl _) (argsL := argsL) (rest := rest) hlen rfl (by show 2 * 0 + _ ≤ _; omega) (hb hbb hd) (fun _ _ => ⟨has, eT, hc, hs⟩)
  dsimp only [Pt.U, Pt.locs, Pt.cells, Pt.slots] at X' l1 y1 z1 s' hQ
  subst l1 y1 z1
  exact ⟨v, T'.heap, hQ, hB, T', _, X', rfl, Fr.app N N', hs0.trans s'⟩
theorem nfS {yr : MethodName} {C : String} (w : (Jvm.Cond.selects C yr yr).before a0 Z = true) : ∀ s : State, Z.Warmed39 s.vm → NotFace s yr := fun s hZ => notFace_of_selects (args := #[]) (mvT hZ w)
theorem callP {a : Addr} {C : String} (argsL : List Value) (r : Rch l Z n0 R y bytes mx rt D h k n pc Ls st) (hd : decode bytes pc = .ok (.invokevirtual index, 3)) (K : Con l Z n0 y' bytes' mx' rt' rm as' h Q) (E : Exa Z h a C) (w1 : (Jvm.Cond.methodLink y.cls index y').before a0 Z = true) (w6 : (Jvm.Cond.instanceMethod y').before a0 Z = true) (w5 : (Jvm.Cond.selects y'.cls y' y').before a0 Z = true) (w7 : (Jvm.Cond.privateMethod y').before a0 Z = true) (w3 : (Jvm.Cond.initialized y'.cls).before a0 Z = true) (w4 : (Jvm.Cond.code y' bytes' mx' rt').before a0 Z = true)
    (hlen : ∀ sig, parseMethodDescriptor y'.desc = some sig → argsL.length = sig.parameters.length) (has : (.ref a :: argsL).toArray = as') (hst : st = argsL.reverse ++ .ref a :: rest) (hW : (rest.map fun v => v.category).sum ≤ W) (hsz : Ls.size = mx) (hy : y'.cls ≠ "java/lang/invoke/MethodHandle" ∧ y'.cls ≠ "java/lang/invoke/VarHandle") (hf : rm.frames + 1 ≤ R.frames) (hlo : W + (mx' + 11) + rm.locals ≤ R.locals) (hc : k + rm.cells ≤ R.cells) (hs : n + rm.slots ≤ R.slots) :
    ∃ v h', Q v h' ∧ Rch l Z n0 R y bytes mx rt D h' (k + rm.cells) (n + rm.slots) (pc + 3) Ls (v.toList ++ rest) := by
  obtain ⟨p, e, s, m, args, below, meth, c, s₁, g0⟩ := D
  obtain ⟨hB, T, locs, X, eT, N, hs0⟩ := r
  obtain ⟨hx, hbb, hml, ho, hZ, hr, hlk, hnm⟩ := id hB
  subst hst
  obtain ⟨cq, q1, q2⟩ := E.cell
  obtain ⟨v, vm₁, ⟨T', L', k', n'⟩, -, X', ⟨Lc, ⟨N', hQ⟩, l1, y1, z1⟩, s'⟩ := X.privateBack hx (y := y') ho (mvT hZ w1) (mvT hZ w6) (mvT hZ w5) (Cond.privateMethod_at (mvP hZ w7 (args := #[]))) (mvT hZ w4) hy (backOf (W := W) (Q := fun v h L => Fr n0 L ∧ Q v h) (K []) hZ w4 w3 hf hlo) (g := mkF m pc Ls (argsL.reverse ++ .ref a :: rest)) rfl (hsz.trans hml.symm) (Steps.refl _) (a := a) (by rw [eT]; exact q1) q2 (argsL := argsL) (rest := rest) hlen rfl (by show 2 * 0 + _ ≤ _; omega) (hb hbb hd) (fun _ _ => ⟨has, eT, hc, hs⟩)
  dsimp only [Pt.U, Pt.locs, Pt.cells, Pt.slots] at X' l1 y1 z1 s' hQ
  subst l1 y1 z1
  exact ⟨v, T'.heap, hQ, hB, T', _, X', rfl, Fr.app N N', hs0.trans s'⟩
end Calls
end Kit
end Jvm.Own

namespace Jvm.Pilot.@@N@@
open Jvm Jvm.ClassFile Sem Op Lib Jvm.Free Jvm.Stand Jvm.LawKit Jvm.RoadKit Bundle Jvm.Pilot.@@N@@.Jvm.D


theorem own_len (s : Int32) : ¬ (Own.iushrW s (3 : Int32) &&& (1 : Int32)) < 0 ∧ (Own.iushrW s (3 : Int32) &&& (1 : Int32)).toNatClampNeg ≤ 1 := by
  rcases and_one (Own.iushrW s (3 : Int32)) with q | q <;> rw [q] <;> decide

theorem d2_0 : decode jdk_30_method_1_code 0 = .ok (.aload_n 0, 1) := by decide +kernel
theorem d2_1 : decode jdk_30_method_1_code 1 = .ok (.invokespecial 1, 3) := by decide +kernel
theorem d2_4 : decode jdk_30_method_1_code 4 = .ok (.return_, 1) := by decide +kernel
theorem pn_2 : plainFor (⟨"java/lang/Record", "<init>", "()V"⟩ : MethodName) = true := plainFor_of_name (by first | (simp [plainName, overriddenIn, x]; done) | decide +kernel)
theorem ef_2 (a0 : Addr) (m : MethodId) : entryFrame m #[(.ref a0)] 1 = mkF m 0 #[.val (.ref a0)] [] := by first | (simp [entryFrame, mkF, argsToLocals, Value.category, maxLocals]; done) | rfl
abbrev R2 : Room := ({ frames := 1, cells := 0, slots := 0, locals := 12 } : Room)
abbrev A2 (l : Launch) (Z : State) (n0 : Nat) (D : Own.Dyn) := Own.Rch l Z n0 R2 (⟨"java/lang/Record", "<init>", "()V"⟩ : MethodName) jdk_30_method_1_code 1 none D
set_option maxRecDepth 65536 in
set_option maxHeartbeats 40000000 in
theorem c2 (l : Launch) (Z : State) (a0 : Array Value) (hw : ∀ d ∈ tables_1, d.before a0 Z = true) (n0 : Nat) (h : Heap) (Zs : n0 ≤ h.size) (a0 : Addr)  :
    Own.Con l Z n0 (⟨"java/lang/Record", "<init>", "()V"⟩ : MethodName) jdk_30_method_1_code 1 none R2 #[(.ref a0)] h (fun v h' => v = none ∧ h = h') := by
  refine Own.Con.enter pn_2 (ef_2 a0) fun D r => ?_
  replace r : A2 l Z n0 D h 0 0 1 #[.val (.ref a0)] [(.ref a0)] := Own.aloadN r d2_0 rfl rfl
  replace r : A2 l Z n0 D h 0 0 4 #[.val (.ref a0)] [] := Own.initObj r d2_1 (hw _ (List.mem_of_getElem? (i := 12) rfl)) (hw _ (List.mem_of_getElem? (i := 13) rfl)) (hw _ (List.mem_of_getElem? (i := 14) rfl)) rfl (by decide) (W := 0) (Nat.le_of_eq rfl) (by decide)
  exact ⟨_, _, (Own.Rch.ret0 r d2_4).more (by decide) (by decide), rfl, rfl⟩
theorem d1_0 : decode prog_203_method_1_code 0 = .ok (.aload_n 0, 1) := by decide +kernel
theorem d1_1 : decode prog_203_method_1_code 1 = .ok (.invokespecial 1, 3) := by decide +kernel
theorem d1_4 : decode prog_203_method_1_code 4 = .ok (.aload_n 0, 1) := by decide +kernel
theorem d1_5 : decode prog_203_method_1_code 5 = .ok (.iload_n 1, 1) := by decide +kernel
theorem d1_6 : decode prog_203_method_1_code 6 = .ok (.putfield 7, 3) := by decide +kernel
theorem d1_9 : decode prog_203_method_1_code 9 = .ok (.aload_n 0, 1) := by decide +kernel
theorem d1_10 : decode prog_203_method_1_code 10 = .ok (.iload_n 2, 1) := by decide +kernel
theorem d1_11 : decode prog_203_method_1_code 11 = .ok (.putfield 13, 3) := by decide +kernel
theorem d1_14 : decode prog_203_method_1_code 14 = .ok (.aload_n 0, 1) := by decide +kernel
theorem d1_15 : decode prog_203_method_1_code 15 = .ok (.iload_n 3, 1) := by decide +kernel
theorem d1_16 : decode prog_203_method_1_code 16 = .ok (.putfield 16, 3) := by decide +kernel
theorem d1_19 : decode prog_203_method_1_code 19 = .ok (.aload_n 0, 1) := by decide +kernel
theorem d1_20 : decode prog_203_method_1_code 20 = .ok (.iload 4, 2) := by decide +kernel
theorem d1_22 : decode prog_203_method_1_code 22 = .ok (.putfield 19, 3) := by decide +kernel
theorem d1_25 : decode prog_203_method_1_code 25 = .ok (.aload_n 0, 1) := by decide +kernel
theorem d1_26 : decode prog_203_method_1_code 26 = .ok (.aload 5, 2) := by decide +kernel
theorem d1_28 : decode prog_203_method_1_code 28 = .ok (.putfield 22, 3) := by decide +kernel
theorem d1_31 : decode prog_203_method_1_code 31 = .ok (.return_, 1) := by decide +kernel
theorem pd_1_0 : parseMethodDescriptor "()V" = some ⟨[], none⟩ := by decide +kernel
theorem pn_1 : plainFor (⟨"com/example/syncline/syncline/protocol/rpc/Pdu$Trailer", "<init>", "(IIII[B)V"⟩ : MethodName) = true := plainFor_of_name (by first | (simp [plainName, overriddenIn, x]; done) | decide +kernel)
theorem ef_1 (a0_ : Addr) (p1 : Int32) (p2 : Int32) (p3 : Int32) (p4 : Int32) (a5 : Addr) (m : MethodId) : entryFrame m #[(.ref a0_), (.int p1), (.int p2), (.int p3), (.int p4), (.ref a5)] 6 = mkF m 0 #[.val (.ref a0_), .val (.int p1), .val (.int p2), .val (.int p3), .val (.int p4), .val (.ref a5)] [] := by first | (simp [entryFrame, mkF, argsToLocals, Value.category, maxLocals]; done) | rfl
abbrev R1 : Room := ({ frames := 2, cells := 0, slots := 0, locals := 24 } : Room)
abbrev A1 (l : Launch) (Z : State) (n0 : Nat) (D : Own.Dyn) := Own.Rch l Z n0 R1 (⟨"com/example/syncline/syncline/protocol/rpc/Pdu$Trailer", "<init>", "(IIII[B)V"⟩ : MethodName) prog_203_method_1_code 6 none D
set_option maxRecDepth 65536 in
set_option maxHeartbeats 40000000 in
theorem c1 (l : Launch) (Z : State) (a0 : Array Value) (hw : ∀ d ∈ tables_1, d.before a0 Z = true) (n0 : Nat) (h : Heap) (Zs : n0 ≤ h.size) (a0_ : Addr) (p1 : Int32) (p2 : Int32) (p3 : Int32) (p4 : Int32) (a5 : Addr) (u_type : Value) (u_level : Value) (u_padding : Value) (u_contextId : Value) (u_token : Value) (F_type_a0_ : Fld Z h a0_ "com/example/syncline/syncline/protocol/rpc/Pdu$Trailer" "type" "I" u_type) (F_level_a0_ : Fld Z h a0_ "com/example/syncline/syncline/protocol/rpc/Pdu$Trailer" "level" "I" u_level) (F_padding_a0_ : Fld Z h a0_ "com/example/syncline/syncline/protocol/rpc/Pdu$Trailer" "padding" "I" u_padding) (F_contextId_a0_ : Fld Z h a0_ "com/example/syncline/syncline/protocol/rpc/Pdu$Trailer" "contextId" "I" u_contextId) (F_token_a0_ : Fld Z h a0_ "com/example/syncline/syncline/protocol/rpc/Pdu$Trailer" "token" "[B" u_token) (X_a0_ : Exa Z h a0_ "com/example/syncline/syncline/protocol/rpc/Pdu$Trailer") (ge_a0_ : n0 ≤ a0_) :
    Own.Con l Z n0 (⟨"com/example/syncline/syncline/protocol/rpc/Pdu$Trailer", "<init>", "(IIII[B)V"⟩ : MethodName) prog_203_method_1_code 6 none R1 #[(.ref a0_), (.int p1), (.int p2), (.int p3), (.int p4), (.ref a5)] h (fun v h' => v = none ∧ Keep h h' [a0_] ∧ Exa Z h' a0_ "com/example/syncline/syncline/protocol/rpc/Pdu$Trailer" ∧ Fld Z h' a0_ "com/example/syncline/syncline/protocol/rpc/Pdu$Trailer" "type" "I" (.int p1) ∧ Fld Z h' a0_ "com/example/syncline/syncline/protocol/rpc/Pdu$Trailer" "level" "I" (.int p2) ∧ Fld Z h' a0_ "com/example/syncline/syncline/protocol/rpc/Pdu$Trailer" "padding" "I" (.int p3) ∧ Fld Z h' a0_ "com/example/syncline/syncline/protocol/rpc/Pdu$Trailer" "contextId" "I" (.int p4) ∧ Fld Z h' a0_ "com/example/syncline/syncline/protocol/rpc/Pdu$Trailer" "token" "[B" (.ref a5)) := by
  refine Own.Con.enter pn_1 (ef_1 a0_ p1 p2 p3 p4 a5) fun D r => ?_
  have K : Keep h h [a0_] := Keep.refl _ _
  replace r : A1 l Z n0 D h 0 0 1 #[.val (.ref a0_), .val (.int p1), .val (.int p2), .val (.int p3), .val (.int p4), .val (.ref a5)] [(.ref a0_)] := Own.aloadN r d1_0 rfl rfl
  obtain ⟨rv1, h2, hQ3, r⟩ := Own.callI [] r d1_1 (c2 l Z a0 hw n0 h Zs a0_) (hw _ (List.mem_of_getElem? (i := 7) rfl)) (hw _ (List.mem_of_getElem? (i := 8) rfl)) (hw _ (List.mem_of_getElem? (i := 10) rfl)) (hw _ (List.mem_of_getElem? (i := 11) rfl)) rfl (lenOf pd_1_0 rfl) rfl rfl (W := 0) (Nat.le_of_eq rfl) rfl (by decide) (by decide) (by decide) (by decide) (by decide)
  obtain ⟨rfl, rfl⟩ := hQ3
  replace r : A1 l Z n0 D h 0 0 4 #[.val (.ref a0_), .val (.int p1), .val (.int p2), .val (.int p3), .val (.int p4), .val (.ref a5)] [] := r
  replace r : A1 l Z n0 D h 0 0 5 #[.val (.ref a0_), .val (.int p1), .val (.int p2), .val (.int p3), .val (.int p4), .val (.ref a5)] [(.ref a0_)] := Own.aloadN r d1_4 rfl rfl
  replace r : A1 l Z n0 D h 0 0 6 #[.val (.ref a0_), .val (.int p1), .val (.int p2), .val (.int p3), .val (.int p4), .val (.ref a5)] [(.int p1), (.ref a0_)] := Own.iloadN r d1_5 rfl
  obtain ⟨h5, W4, r⟩ := Own.putfield r d1_6 (host := "") (Or.inl (hw _ (List.mem_of_getElem? (i := 15) rfl))) Via.refl F_type_a0_ X_a0_ (Or.inr ⟨(hw _ (List.mem_of_getElem? (i := 16) rfl)), rfl, rfl⟩) (hw _ (List.mem_of_getElem? (i := 2) rfl)) (ty := .int) (by decide) rfl rfl ge_a0_
  replace r : A1 l Z n0 D h5 0 0 9 #[.val (.ref a0_), .val (.int p1), .val (.int p2), .val (.int p3), .val (.int p4), .val (.ref a5)] [] := r
  replace F_type_a0_ := F_type_a0_.same W4
  replace F_level_a0_ := F_level_a0_.other W4 (Or.inr (slot_ne (Or.inr (hw _ (List.mem_of_getElem? (i := 18) rfl))) (Or.inr (hw _ (List.mem_of_getElem? (i := 16) rfl))) (by decide) (t := .int) (t' := .int) (by decide) (by decide)))
  replace F_padding_a0_ := F_padding_a0_.other W4 (Or.inr (slot_ne (Or.inr (hw _ (List.mem_of_getElem? (i := 20) rfl))) (Or.inr (hw _ (List.mem_of_getElem? (i := 16) rfl))) (by decide) (t := .int) (t' := .int) (by decide) (by decide)))
  replace F_contextId_a0_ := F_contextId_a0_.other W4 (Or.inr (slot_ne (Or.inr (hw _ (List.mem_of_getElem? (i := 22) rfl))) (Or.inr (hw _ (List.mem_of_getElem? (i := 16) rfl))) (by decide) (t := .int) (t' := .int) (by decide) (by decide)))
  replace F_token_a0_ := F_token_a0_.other W4 (Or.inr (slot_ne (Or.inr (hw _ (List.mem_of_getElem? (i := 24) rfl))) (Or.inr (hw _ (List.mem_of_getElem? (i := 16) rfl))) (by decide) (t := (.array .byte)) (t' := .int) (by decide) (by decide)))
  replace X_a0_ := X_a0_.wr W4
  replace Zs := Nat.le_trans Zs (Nat.le_of_eq W4.size.symm)
  replace K := K.wr W4 (Or.inl (by simp))
  replace r : A1 l Z n0 D h5 0 0 10 #[.val (.ref a0_), .val (.int p1), .val (.int p2), .val (.int p3), .val (.int p4), .val (.ref a5)] [(.ref a0_)] := Own.aloadN r d1_9 rfl rfl
  replace r : A1 l Z n0 D h5 0 0 11 #[.val (.ref a0_), .val (.int p1), .val (.int p2), .val (.int p3), .val (.int p4), .val (.ref a5)] [(.int p2), (.ref a0_)] := Own.iloadN r d1_10 rfl
  obtain ⟨h7, W6, r⟩ := Own.putfield r d1_11 (host := "") (Or.inl (hw _ (List.mem_of_getElem? (i := 17) rfl))) Via.refl F_level_a0_ X_a0_ (Or.inr ⟨(hw _ (List.mem_of_getElem? (i := 18) rfl)), rfl, rfl⟩) (hw _ (List.mem_of_getElem? (i := 2) rfl)) (ty := .int) (by decide) rfl rfl ge_a0_
  replace r : A1 l Z n0 D h7 0 0 14 #[.val (.ref a0_), .val (.int p1), .val (.int p2), .val (.int p3), .val (.int p4), .val (.ref a5)] [] := r
  replace F_type_a0_ := F_type_a0_.other W6 (Or.inr (slot_ne (Or.inr (hw _ (List.mem_of_getElem? (i := 16) rfl))) (Or.inr (hw _ (List.mem_of_getElem? (i := 18) rfl))) (by decide) (t := .int) (t' := .int) (by decide) (by decide)))
  replace F_level_a0_ := F_level_a0_.same W6
  replace F_padding_a0_ := F_padding_a0_.other W6 (Or.inr (slot_ne (Or.inr (hw _ (List.mem_of_getElem? (i := 20) rfl))) (Or.inr (hw _ (List.mem_of_getElem? (i := 18) rfl))) (by decide) (t := .int) (t' := .int) (by decide) (by decide)))
  replace F_contextId_a0_ := F_contextId_a0_.other W6 (Or.inr (slot_ne (Or.inr (hw _ (List.mem_of_getElem? (i := 22) rfl))) (Or.inr (hw _ (List.mem_of_getElem? (i := 18) rfl))) (by decide) (t := .int) (t' := .int) (by decide) (by decide)))
  replace F_token_a0_ := F_token_a0_.other W6 (Or.inr (slot_ne (Or.inr (hw _ (List.mem_of_getElem? (i := 24) rfl))) (Or.inr (hw _ (List.mem_of_getElem? (i := 18) rfl))) (by decide) (t := (.array .byte)) (t' := .int) (by decide) (by decide)))
  replace X_a0_ := X_a0_.wr W6
  replace Zs := Nat.le_trans Zs (Nat.le_of_eq W6.size.symm)
  replace K := K.wr W6 (Or.inl (by simp))
  replace r : A1 l Z n0 D h7 0 0 15 #[.val (.ref a0_), .val (.int p1), .val (.int p2), .val (.int p3), .val (.int p4), .val (.ref a5)] [(.ref a0_)] := Own.aloadN r d1_14 rfl rfl
  replace r : A1 l Z n0 D h7 0 0 16 #[.val (.ref a0_), .val (.int p1), .val (.int p2), .val (.int p3), .val (.int p4), .val (.ref a5)] [(.int p3), (.ref a0_)] := Own.iloadN r d1_15 rfl
  obtain ⟨h9, W8, r⟩ := Own.putfield r d1_16 (host := "") (Or.inl (hw _ (List.mem_of_getElem? (i := 19) rfl))) Via.refl F_padding_a0_ X_a0_ (Or.inr ⟨(hw _ (List.mem_of_getElem? (i := 20) rfl)), rfl, rfl⟩) (hw _ (List.mem_of_getElem? (i := 2) rfl)) (ty := .int) (by decide) rfl rfl ge_a0_
  replace r : A1 l Z n0 D h9 0 0 19 #[.val (.ref a0_), .val (.int p1), .val (.int p2), .val (.int p3), .val (.int p4), .val (.ref a5)] [] := r
  replace F_type_a0_ := F_type_a0_.other W8 (Or.inr (slot_ne (Or.inr (hw _ (List.mem_of_getElem? (i := 16) rfl))) (Or.inr (hw _ (List.mem_of_getElem? (i := 20) rfl))) (by decide) (t := .int) (t' := .int) (by decide) (by decide)))
  replace F_level_a0_ := F_level_a0_.other W8 (Or.inr (slot_ne (Or.inr (hw _ (List.mem_of_getElem? (i := 18) rfl))) (Or.inr (hw _ (List.mem_of_getElem? (i := 20) rfl))) (by decide) (t := .int) (t' := .int) (by decide) (by decide)))
  replace F_padding_a0_ := F_padding_a0_.same W8
  replace F_contextId_a0_ := F_contextId_a0_.other W8 (Or.inr (slot_ne (Or.inr (hw _ (List.mem_of_getElem? (i := 22) rfl))) (Or.inr (hw _ (List.mem_of_getElem? (i := 20) rfl))) (by decide) (t := .int) (t' := .int) (by decide) (by decide)))
  replace F_token_a0_ := F_token_a0_.other W8 (Or.inr (slot_ne (Or.inr (hw _ (List.mem_of_getElem? (i := 24) rfl))) (Or.inr (hw _ (List.mem_of_getElem? (i := 20) rfl))) (by decide) (t := (.array .byte)) (t' := .int) (by decide) (by decide)))
  replace X_a0_ := X_a0_.wr W8
  replace Zs := Nat.le_trans Zs (Nat.le_of_eq W8.size.symm)
  replace K := K.wr W8 (Or.inl (by simp))
  replace r : A1 l Z n0 D h9 0 0 20 #[.val (.ref a0_), .val (.int p1), .val (.int p2), .val (.int p3), .val (.int p4), .val (.ref a5)] [(.ref a0_)] := Own.aloadN r d1_19 rfl rfl
  replace r : A1 l Z n0 D h9 0 0 22 #[.val (.ref a0_), .val (.int p1), .val (.int p2), .val (.int p3), .val (.int p4), .val (.ref a5)] [(.int p4), (.ref a0_)] := Own.iload r d1_20 rfl
  obtain ⟨h11, W10, r⟩ := Own.putfield r d1_22 (host := "") (Or.inl (hw _ (List.mem_of_getElem? (i := 21) rfl))) Via.refl F_contextId_a0_ X_a0_ (Or.inr ⟨(hw _ (List.mem_of_getElem? (i := 22) rfl)), rfl, rfl⟩) (hw _ (List.mem_of_getElem? (i := 2) rfl)) (ty := .int) (by decide) rfl rfl ge_a0_
  replace r : A1 l Z n0 D h11 0 0 25 #[.val (.ref a0_), .val (.int p1), .val (.int p2), .val (.int p3), .val (.int p4), .val (.ref a5)] [] := r
  replace F_type_a0_ := F_type_a0_.other W10 (Or.inr (slot_ne (Or.inr (hw _ (List.mem_of_getElem? (i := 16) rfl))) (Or.inr (hw _ (List.mem_of_getElem? (i := 22) rfl))) (by decide) (t := .int) (t' := .int) (by decide) (by decide)))
  replace F_level_a0_ := F_level_a0_.other W10 (Or.inr (slot_ne (Or.inr (hw _ (List.mem_of_getElem? (i := 18) rfl))) (Or.inr (hw _ (List.mem_of_getElem? (i := 22) rfl))) (by decide) (t := .int) (t' := .int) (by decide) (by decide)))
  replace F_padding_a0_ := F_padding_a0_.other W10 (Or.inr (slot_ne (Or.inr (hw _ (List.mem_of_getElem? (i := 20) rfl))) (Or.inr (hw _ (List.mem_of_getElem? (i := 22) rfl))) (by decide) (t := .int) (t' := .int) (by decide) (by decide)))
  replace F_contextId_a0_ := F_contextId_a0_.same W10
  replace F_token_a0_ := F_token_a0_.other W10 (Or.inr (slot_ne (Or.inr (hw _ (List.mem_of_getElem? (i := 24) rfl))) (Or.inr (hw _ (List.mem_of_getElem? (i := 22) rfl))) (by decide) (t := (.array .byte)) (t' := .int) (by decide) (by decide)))
  replace X_a0_ := X_a0_.wr W10
  replace Zs := Nat.le_trans Zs (Nat.le_of_eq W10.size.symm)
  replace K := K.wr W10 (Or.inl (by simp))
  replace r : A1 l Z n0 D h11 0 0 26 #[.val (.ref a0_), .val (.int p1), .val (.int p2), .val (.int p3), .val (.int p4), .val (.ref a5)] [(.ref a0_)] := Own.aloadN r d1_25 rfl rfl
  replace r : A1 l Z n0 D h11 0 0 28 #[.val (.ref a0_), .val (.int p1), .val (.int p2), .val (.int p3), .val (.int p4), .val (.ref a5)] [(.ref a5), (.ref a0_)] := Own.aload r d1_26 rfl rfl
  obtain ⟨h13, W12, r⟩ := Own.putfield r d1_28 (host := "") (Or.inl (hw _ (List.mem_of_getElem? (i := 23) rfl))) Via.refl F_token_a0_ X_a0_ (Or.inr ⟨(hw _ (List.mem_of_getElem? (i := 24) rfl)), rfl, rfl⟩) (hw _ (List.mem_of_getElem? (i := 2) rfl)) (ty := (.array .byte)) (by decide) rfl rfl ge_a0_
  replace r : A1 l Z n0 D h13 0 0 31 #[.val (.ref a0_), .val (.int p1), .val (.int p2), .val (.int p3), .val (.int p4), .val (.ref a5)] [] := r
  replace F_type_a0_ := F_type_a0_.other W12 (Or.inr (slot_ne (Or.inr (hw _ (List.mem_of_getElem? (i := 16) rfl))) (Or.inr (hw _ (List.mem_of_getElem? (i := 24) rfl))) (by decide) (t := .int) (t' := (.array .byte)) (by decide) (by decide)))
  replace F_level_a0_ := F_level_a0_.other W12 (Or.inr (slot_ne (Or.inr (hw _ (List.mem_of_getElem? (i := 18) rfl))) (Or.inr (hw _ (List.mem_of_getElem? (i := 24) rfl))) (by decide) (t := .int) (t' := (.array .byte)) (by decide) (by decide)))
  replace F_padding_a0_ := F_padding_a0_.other W12 (Or.inr (slot_ne (Or.inr (hw _ (List.mem_of_getElem? (i := 20) rfl))) (Or.inr (hw _ (List.mem_of_getElem? (i := 24) rfl))) (by decide) (t := .int) (t' := (.array .byte)) (by decide) (by decide)))
  replace F_contextId_a0_ := F_contextId_a0_.other W12 (Or.inr (slot_ne (Or.inr (hw _ (List.mem_of_getElem? (i := 22) rfl))) (Or.inr (hw _ (List.mem_of_getElem? (i := 24) rfl))) (by decide) (t := .int) (t' := (.array .byte)) (by decide) (by decide)))
  replace F_token_a0_ := F_token_a0_.same W12
  replace X_a0_ := X_a0_.wr W12
  replace Zs := Nat.le_trans Zs (Nat.le_of_eq W12.size.symm)
  replace K := K.wr W12 (Or.inl (by simp))
  exact ⟨_, _, (Own.Rch.ret0 r d1_31).more (by decide) (by decide), rfl, K, X_a0_, F_type_a0_, F_level_a0_, F_padding_a0_, F_contextId_a0_, F_token_a0_⟩
theorem d4_0 : decode prog_203_method_2_code 0 = .ok (.aload_n 1, 1) := by decide +kernel
theorem d4_1 : decode prog_203_method_2_code 1 = .ok (.getfield 7, 3) := by decide +kernel
theorem d4_4 : decode prog_203_method_2_code 4 = .ok (.aload_n 0, 1) := by decide +kernel
theorem d4_5 : decode prog_203_method_2_code 5 = .ok (.getfield 7, 3) := by decide +kernel
theorem d4_8 : decode prog_203_method_2_code 8 = .ok (.if_icmp .ne 29, 3) := by decide +kernel
theorem d4_11 : decode prog_203_method_2_code 11 = .ok (.aload_n 1, 1) := by decide +kernel
theorem d4_12 : decode prog_203_method_2_code 12 = .ok (.getfield 13, 3) := by decide +kernel
theorem d4_15 : decode prog_203_method_2_code 15 = .ok (.aload_n 0, 1) := by decide +kernel
theorem d4_16 : decode prog_203_method_2_code 16 = .ok (.getfield 13, 3) := by decide +kernel
theorem d4_19 : decode prog_203_method_2_code 19 = .ok (.if_icmp .ne 18, 3) := by decide +kernel
theorem d4_22 : decode prog_203_method_2_code 22 = .ok (.aload_n 1, 1) := by decide +kernel
theorem d4_23 : decode prog_203_method_2_code 23 = .ok (.getfield 19, 3) := by decide +kernel
theorem d4_26 : decode prog_203_method_2_code 26 = .ok (.aload_n 0, 1) := by decide +kernel
theorem d4_27 : decode prog_203_method_2_code 27 = .ok (.getfield 19, 3) := by decide +kernel
theorem d4_30 : decode prog_203_method_2_code 30 = .ok (.if_icmp .ne 7, 3) := by decide +kernel
theorem d4_33 : decode prog_203_method_2_code 33 = .ok (.iconst 1, 1) := by decide +kernel
theorem d4_34 : decode prog_203_method_2_code 34 = .ok (.goto 4, 3) := by decide +kernel
theorem d4_37 : decode prog_203_method_2_code 37 = .ok (.iconst 0, 1) := by decide +kernel
theorem d4_38 : decode prog_203_method_2_code 38 = .ok (.ireturn, 1) := by decide +kernel
theorem pn_4 : plainFor (⟨"com/example/syncline/syncline/protocol/rpc/Pdu$Trailer", "names", "(Lcom/example/syncline/syncline/protocol/rpc/Pdu$Trailer;)Z"⟩ : MethodName) = true := plainFor_of_name (by first | (simp [plainName, overriddenIn, x]; done) | decide +kernel)
theorem ef_4 (a0_ : Addr) (a1_ : Addr) (m : MethodId) : entryFrame m #[(.ref a0_), (.ref a1_)] 2 = mkF m 0 #[.val (.ref a0_), .val (.ref a1_)] [] := by first | (simp [entryFrame, mkF, argsToLocals, Value.category, maxLocals]; done) | rfl
abbrev R4 : Room := ({ frames := 0, cells := 0, slots := 0, locals := 0 } : Room)
abbrev A4 (l : Launch) (Z : State) (n0 : Nat) (D : Own.Dyn) := Own.Rch l Z n0 R4 (⟨"com/example/syncline/syncline/protocol/rpc/Pdu$Trailer", "names", "(Lcom/example/syncline/syncline/protocol/rpc/Pdu$Trailer;)Z"⟩ : MethodName) prog_203_method_2_code 2 (some .boolean) D
def S4 (t1 : Int32) (t0 : Int32) (l1 : Int32) (l0 : Int32) (x1 : Int32) (x0 : Int32) (w : Int32) : Prop := ∃ m1 : Int32, m1 = (if t1 = t0 then (if l1 = l0 then (if x1 = x0 then (1 : Int32) else (0 : Int32)) else (0 : Int32)) else (0 : Int32)) ∧ w = m1
set_option maxRecDepth 65536 in
set_option maxHeartbeats 40000000 in
theorem c4 (l : Launch) (Z : State) (a0 : Array Value) (hw : ∀ d ∈ tables_1, d.before a0 Z = true) (n0 : Nat) (h : Heap) (Zs : n0 ≤ h.size) (a0_ : Addr) (a1_ : Addr) (t1 : Int32) (t0 : Int32) (l1 : Int32) (l0 : Int32) (x1 : Int32) (x0 : Int32) (F_type_a1_ : Fld Z h a1_ "com/example/syncline/syncline/protocol/rpc/Pdu$Trailer" "type" "I" (.int t1)) (F_type_a0_ : Fld Z h a0_ "com/example/syncline/syncline/protocol/rpc/Pdu$Trailer" "type" "I" (.int t0)) (F_level_a1_ : Fld Z h a1_ "com/example/syncline/syncline/protocol/rpc/Pdu$Trailer" "level" "I" (.int l1)) (F_level_a0_ : Fld Z h a0_ "com/example/syncline/syncline/protocol/rpc/Pdu$Trailer" "level" "I" (.int l0)) (F_contextId_a1_ : Fld Z h a1_ "com/example/syncline/syncline/protocol/rpc/Pdu$Trailer" "contextId" "I" (.int x1)) (F_contextId_a0_ : Fld Z h a0_ "com/example/syncline/syncline/protocol/rpc/Pdu$Trailer" "contextId" "I" (.int x0)) :
    Own.Con l Z n0 (⟨"com/example/syncline/syncline/protocol/rpc/Pdu$Trailer", "names", "(Lcom/example/syncline/syncline/protocol/rpc/Pdu$Trailer;)Z"⟩ : MethodName) prog_203_method_2_code 2 (some .boolean) R4 #[(.ref a0_), (.ref a1_)] h (fun v h' => h = h' ∧ ∃ w : Int32, v = some (.int w) ∧ S4 t1 t0 l1 l0 x1 x0 w) := by
  refine Own.Con.enter pn_4 (ef_4 a0_ a1_) fun D r => ?_
  replace r : A4 l Z n0 D h 0 0 1 #[.val (.ref a0_), .val (.ref a1_)] [(.ref a1_)] := Own.aloadN r d4_0 rfl rfl
  replace r : A4 l Z n0 D h 0 0 4 #[.val (.ref a0_), .val (.ref a1_)] [(.int t1)] := Own.getfield r d4_1 (host := "") (Or.inl (hw _ (List.mem_of_getElem? (i := 15) rfl))) Via.refl F_type_a1_
  replace r : A4 l Z n0 D h 0 0 5 #[.val (.ref a0_), .val (.ref a1_)] [(.ref a0_), (.int t1)] := Own.aloadN r d4_4 rfl rfl
  replace r : A4 l Z n0 D h 0 0 8 #[.val (.ref a0_), .val (.ref a1_)] [(.int t0), (.int t1)] := Own.getfield r d4_5 (host := "") (Or.inl (hw _ (List.mem_of_getElem? (i := 15) rfl))) Via.refl F_type_a0_
  obtain ⟨m1, e_m1, r⟩ : ∃ (m1 : Int32), m1 = (if t1 = t0 then (if l1 = l0 then (if x1 = x0 then (1 : Int32) else (0 : Int32)) else (0 : Int32)) else (0 : Int32)) ∧ A4 l Z n0 D h 0 0 38 #[.val (.ref a0_), .val (.ref a1_)] [(.int m1)] := by
    by_cases c2 : t1 = t0
    · skip
      replace r : A4 l Z n0 D h 0 0 11 #[.val (.ref a0_), .val (.ref a1_)] [] := Own.icmpNo r d4_8 (teq c2).2
      replace r : A4 l Z n0 D h 0 0 12 #[.val (.ref a0_), .val (.ref a1_)] [(.ref a1_)] := Own.aloadN r d4_11 rfl rfl
      replace r : A4 l Z n0 D h 0 0 15 #[.val (.ref a0_), .val (.ref a1_)] [(.int l1)] := Own.getfield r d4_12 (host := "") (Or.inl (hw _ (List.mem_of_getElem? (i := 17) rfl))) Via.refl F_level_a1_
      replace r : A4 l Z n0 D h 0 0 16 #[.val (.ref a0_), .val (.ref a1_)] [(.ref a0_), (.int l1)] := Own.aloadN r d4_15 rfl rfl
      replace r : A4 l Z n0 D h 0 0 19 #[.val (.ref a0_), .val (.ref a1_)] [(.int l0), (.int l1)] := Own.getfield r d4_16 (host := "") (Or.inl (hw _ (List.mem_of_getElem? (i := 17) rfl))) Via.refl F_level_a0_
      by_cases c3 : l1 = l0
      · skip
        replace r : A4 l Z n0 D h 0 0 22 #[.val (.ref a0_), .val (.ref a1_)] [] := Own.icmpNo r d4_19 (teq c3).2
        replace r : A4 l Z n0 D h 0 0 23 #[.val (.ref a0_), .val (.ref a1_)] [(.ref a1_)] := Own.aloadN r d4_22 rfl rfl
        replace r : A4 l Z n0 D h 0 0 26 #[.val (.ref a0_), .val (.ref a1_)] [(.int x1)] := Own.getfield r d4_23 (host := "") (Or.inl (hw _ (List.mem_of_getElem? (i := 21) rfl))) Via.refl F_contextId_a1_
        replace r : A4 l Z n0 D h 0 0 27 #[.val (.ref a0_), .val (.ref a1_)] [(.ref a0_), (.int x1)] := Own.aloadN r d4_26 rfl rfl
        replace r : A4 l Z n0 D h 0 0 30 #[.val (.ref a0_), .val (.ref a1_)] [(.int x0), (.int x1)] := Own.getfield r d4_27 (host := "") (Or.inl (hw _ (List.mem_of_getElem? (i := 21) rfl))) Via.refl F_contextId_a0_
        by_cases c4 : x1 = x0
        · skip
          replace r : A4 l Z n0 D h 0 0 33 #[.val (.ref a0_), .val (.ref a1_)] [] := Own.icmpNo r d4_30 (teq c4).2
          replace r : A4 l Z n0 D h 0 0 34 #[.val (.ref a0_), .val (.ref a1_)] [(.int (1 : Int32))] := Own.iconst r d4_33 rfl
          replace r : A4 l Z n0 D h 0 0 38 #[.val (.ref a0_), .val (.ref a1_)] [(.int (1 : Int32))] := Own.goto r d4_34 (by decide) (by decide)
          exact ⟨_, by rw [if_pos c2, if_pos c3, if_pos c4], r⟩
        · skip
          replace r : A4 l Z n0 D h 0 0 37 #[.val (.ref a0_), .val (.ref a1_)] [] := Own.icmpYes r d4_30 (feq c4).2 (by decide) (by decide)
          replace r : A4 l Z n0 D h 0 0 38 #[.val (.ref a0_), .val (.ref a1_)] [(.int (0 : Int32))] := Own.iconst r d4_37 rfl
          exact ⟨_, by rw [if_pos c2, if_pos c3, if_neg c4], r⟩
      · skip
        replace r : A4 l Z n0 D h 0 0 37 #[.val (.ref a0_), .val (.ref a1_)] [] := Own.icmpYes r d4_19 (feq c3).2 (by decide) (by decide)
        replace r : A4 l Z n0 D h 0 0 38 #[.val (.ref a0_), .val (.ref a1_)] [(.int (0 : Int32))] := Own.iconst r d4_37 rfl
        exact ⟨_, by rw [if_pos c2, if_neg c3], r⟩
    · skip
      replace r : A4 l Z n0 D h 0 0 37 #[.val (.ref a0_), .val (.ref a1_)] [] := Own.icmpYes r d4_8 (feq c2).2 (by decide) (by decide)
      replace r : A4 l Z n0 D h 0 0 38 #[.val (.ref a0_), .val (.ref a1_)] [(.int (0 : Int32))] := Own.iconst r d4_37 rfl
      exact ⟨_, by rw [if_neg c2], r⟩
  exact ⟨_, _, (Own.Rch.retZ r d4_38 (by rw [e_m1]; (repeat' split) <;> rfl)).more (by decide) (by decide), rfl, _, rfl, ⟨m1, e_m1, rfl⟩⟩

theorem own_i32 {x y : Int32} (h : (x.toInt - y.toInt) % 4294967296 = 0) : x = y := by
  apply Int32.toInt_inj.mp
  have := x.toInt_lt; have := x.le_toInt; have := y.toInt_lt; have := y.le_toInt
  omega
theorem own_k (d : Int32) : (d ||| (1 : Int32)) ≠ 0 := by
  intro h
  have h2 := congrArg (fun x : Int32 => x.toBitVec.getLsbD 0) h
  simp only [Int32.toBitVec_or, BitVec.getLsbD_or] at h2
  have e1 : (1 : Int32).toBitVec.getLsbD 0 = true := by decide
  have e0 : (0 : Int32).toBitVec.getLsbD 0 = false := by decide
  rw [e1, e0, Bool.or_true] at h2
  exact Bool.noConfusion h2
theorem own_add {t k : Int32} (hk : k ≠ 0) : t + k ≠ t := fun h => hk (own_i32 (by
  have e := congrArg Int32.toInt h; have := c_iadd t k; have : (0 : Int32).toInt = 0 := rfl; omega))
theorem own_sub {t k : Int32} (hk : k ≠ 0) : t - k ≠ t := fun h => hk (own_i32 (by
  have e := congrArg Int32.toInt h; have := c_isub t k; have : (0 : Int32).toInt = 0 := rfl; omega))
theorem own_xor {t k : Int32} (hk : k ≠ 0) : t ^^^ k ≠ t := fun h => hk (by
  have e : t ^^^ (t ^^^ k) = t ^^^ t := by rw [h]
  rwa [← Int32.xor_assoc, Int32.xor_self, Int32.zero_xor] at e)
theorem own_ab {t l c d sel k s7 s8 s9 t2 l2 c2 ex y : Int32} (e6 : k = (d ||| (1 : Int32)))
    (e7 : s7 = (if (sel &&& (1 : Int32)) = (0 : Int32) then (0 : Int32) else (1 : Int32))) (e8 : s8 = (if (sel &&& (2 : Int32)) = (0 : Int32) then (0 : Int32) else (1 : Int32))) (e9 : s9 = (if (sel &&& (4 : Int32)) = (0 : Int32) then (0 : Int32) else (1 : Int32)))
    (et : t2 = (if s7 = (0 : Int32) then (t + k) else t)) (el : l2 = (if s8 = (0 : Int32) then (l ^^^ k) else l)) (ec : c2 = (if s9 = (0 : Int32) then (c - k) else c))
    (ex_ : ex = (if s7 = (0 : Int32) then (0 : Int32) else (if s8 = (0 : Int32) then (0 : Int32) else (if s9 = (0 : Int32) then (0 : Int32) else (1 : Int32)))))
    (ey : S4 t2 t l2 l c2 c y) : y = ex := by
  obtain ⟨m1, h1, rfl⟩ := ey
  have hk : k ≠ 0 := e6 ▸ own_k d
  rw [h1, ex_, et, el, ec]
  by_cases a : s7 = (0 : Int32)
  · simp [a, own_add hk]
  · by_cases b : s8 = (0 : Int32)
    · simp [a, b, own_xor hk]
    · by_cases g : s9 = (0 : Int32)
      · simp [a, b, g, own_sub hk]
      · simp [a, b, g]
theorem own_ba {t l c d sel k s7 s8 s9 t2 l2 c2 ex y : Int32} (e6 : k = (d ||| (1 : Int32)))
    (e7 : s7 = (if (sel &&& (1 : Int32)) = (0 : Int32) then (0 : Int32) else (1 : Int32))) (e8 : s8 = (if (sel &&& (2 : Int32)) = (0 : Int32) then (0 : Int32) else (1 : Int32))) (e9 : s9 = (if (sel &&& (4 : Int32)) = (0 : Int32) then (0 : Int32) else (1 : Int32)))
    (et : t2 = (if s7 = (0 : Int32) then (t + k) else t)) (el : l2 = (if s8 = (0 : Int32) then (l ^^^ k) else l)) (ec : c2 = (if s9 = (0 : Int32) then (c - k) else c))
    (ex_ : ex = (if s7 = (0 : Int32) then (0 : Int32) else (if s8 = (0 : Int32) then (0 : Int32) else (if s9 = (0 : Int32) then (0 : Int32) else (1 : Int32)))))
    (ey : S4 t t2 l l2 c c2 y) : y = ex := by
  refine own_ab e6 e7 e8 e9 et el ec ex_ ?_
  obtain ⟨m1, h1, h3⟩ := ey
  refine ⟨m1, ?_, h3⟩
  rw [h1]
  simp only [eq_comm (a := t), eq_comm (a := l), eq_comm (a := c)]
theorem own_self {t l c y : Int32} (ey : S4 t t l l c c y) : ¬ y = (0 : Int32) := by
  obtain ⟨m1, h1, rfl⟩ := ey
  rw [h1]; simp

theorem pd_0_0 : parseMethodDescriptor "(IIII[B)V" = some ⟨[.int, .int, .int, .int, (.array .byte)], none⟩ := by decide +kernel
theorem pd_0_1 : parseMethodDescriptor "(Lcom/example/syncline/syncline/protocol/rpc/Pdu$Trailer;)Z" = some ⟨[(.object "com/example/syncline/syncline/protocol/rpc/Pdu$Trailer")], some .boolean⟩ := by decide +kernel
theorem pn_0 : plainFor x = true := plainFor_of_name (by first | (simp [plainName, overriddenIn, x]; done) | decide +kernel)
theorem ef_0 (t : Int32) (l_ : Int32) (c_ : Int32) (p : Int32) (d_ : Int32) (sel : Int32) (m : MethodId) : entryFrame m #[(.int t), (.int l_), (.int c_), (.int p), (.int d_), (.int sel)] maxLocals = mkF m 0 #[.val (.int t), .val (.int l_), .val (.int c_), .val (.int p), .val (.int d_), .val (.int sel), .unset, .unset, .unset, .unset, .unset, .unset, .unset, .unset, .unset, .unset, .unset, .unset] [] := by first | (simp [entryFrame, mkF, argsToLocals, Value.category, maxLocals]; done) | rfl
abbrev R0 : Room := room_1
abbrev A0 (l : Launch) (Z : State) (n0 : Nat) (D : Own.Dyn) := Own.Rch l Z n0 R0 x code maxLocals ret D
set_option maxRecDepth 65536 in
set_option maxHeartbeats 40000000 in
theorem c0 (l : Launch) (Z : State) (a0 : Array Value) (hw : ∀ d ∈ tables_1, d.before a0 Z = true) (n0 : Nat) (h : Heap) (Zs : n0 ≤ h.size) (t : Int32) (l_ : Int32) (c_ : Int32) (p : Int32) (d_ : Int32) (sel : Int32) :
    Own.Con l Z n0 x code maxLocals ret R0 #[(.int t), (.int l_), (.int c_), (.int p), (.int d_), (.int sel)] h (fun v h' => v = some (.int 1)) := by
  refine Own.Con.enter pn_0 (ef_0 t l_ c_ p d_ sel) fun D r => ?_
  replace r : A0 l Z n0 D h 0 0 2 #[.val (.int t), .val (.int l_), .val (.int c_), .val (.int p), .val (.int d_), .val (.int sel), .unset, .unset, .unset, .unset, .unset, .unset, .unset, .unset, .unset, .unset, .unset, .unset] [(.int d_)] := Own.iload r at_0 rfl
  replace r : A0 l Z n0 D h 0 0 3 #[.val (.int t), .val (.int l_), .val (.int c_), .val (.int p), .val (.int d_), .val (.int sel), .unset, .unset, .unset, .unset, .unset, .unset, .unset, .unset, .unset, .unset, .unset, .unset] [(.int (1 : Int32)), (.int d_)] := Own.iconst r at_2 rfl
  replace r : A0 l Z n0 D h 0 0 4 #[.val (.int t), .val (.int l_), .val (.int c_), .val (.int p), .val (.int d_), .val (.int sel), .unset, .unset, .unset, .unset, .unset, .unset, .unset, .unset, .unset, .unset, .unset, .unset] [(.int (d_ ||| (1 : Int32)))] := Own.ior r at_3
  obtain ⟨v6_1, e_v6_1⟩ : ∃ z : Int32, z = (d_ ||| (1 : Int32)) := ⟨_, rfl⟩
  replace r : A0 l Z n0 D h 0 0 4 #[.val (.int t), .val (.int l_), .val (.int c_), .val (.int p), .val (.int d_), .val (.int sel), .unset, .unset, .unset, .unset, .unset, .unset, .unset, .unset, .unset, .unset, .unset, .unset] [(.int v6_1)] := by rw [e_v6_1]; exact r
  replace r : A0 l Z n0 D h 0 0 6 #[.val (.int t), .val (.int l_), .val (.int c_), .val (.int p), .val (.int d_), .val (.int sel), .val (.int v6_1), .unset, .unset, .unset, .unset, .unset, .unset, .unset, .unset, .unset, .unset, .unset] [] := Own.istore r at_4 rfl
  replace r : A0 l Z n0 D h 0 0 8 #[.val (.int t), .val (.int l_), .val (.int c_), .val (.int p), .val (.int d_), .val (.int sel), .val (.int v6_1), .unset, .unset, .unset, .unset, .unset, .unset, .unset, .unset, .unset, .unset, .unset] [(.int sel)] := Own.iload r at_6 rfl
  replace r : A0 l Z n0 D h 0 0 9 #[.val (.int t), .val (.int l_), .val (.int c_), .val (.int p), .val (.int d_), .val (.int sel), .val (.int v6_1), .unset, .unset, .unset, .unset, .unset, .unset, .unset, .unset, .unset, .unset, .unset] [(.int (1 : Int32)), (.int sel)] := Own.iconst r at_8 rfl
  replace r : A0 l Z n0 D h 0 0 10 #[.val (.int t), .val (.int l_), .val (.int c_), .val (.int p), .val (.int d_), .val (.int sel), .val (.int v6_1), .unset, .unset, .unset, .unset, .unset, .unset, .unset, .unset, .unset, .unset, .unset] [(.int (sel &&& (1 : Int32)))] := Own.iand r at_9
  obtain ⟨m2, e_m2, r⟩ : ∃ (m2 : Int32), m2 = (if (sel &&& (1 : Int32)) = (0 : Int32) then (0 : Int32) else (1 : Int32)) ∧ A0 l Z n0 D h 0 0 18 #[.val (.int t), .val (.int l_), .val (.int c_), .val (.int p), .val (.int d_), .val (.int sel), .val (.int v6_1), .unset, .unset, .unset, .unset, .unset, .unset, .unset, .unset, .unset, .unset, .unset] [(.int m2)] := by
    by_cases c3 : (sel &&& (1 : Int32)) = (0 : Int32)
    · skip
      replace r : A0 l Z n0 D h 0 0 17 #[.val (.int t), .val (.int l_), .val (.int c_), .val (.int p), .val (.int d_), .val (.int sel), .val (.int v6_1), .unset, .unset, .unset, .unset, .unset, .unset, .unset, .unset, .unset, .unset, .unset] [] := Own.ifYes r at_10 ((if0 _ _).trans (teq c3).1) (by decide) (by decide)
      replace r : A0 l Z n0 D h 0 0 18 #[.val (.int t), .val (.int l_), .val (.int c_), .val (.int p), .val (.int d_), .val (.int sel), .val (.int v6_1), .unset, .unset, .unset, .unset, .unset, .unset, .unset, .unset, .unset, .unset, .unset] [(.int (0 : Int32))] := Own.iconst r at_17 rfl
      exact ⟨_, by rw [if_pos c3], r⟩
    · skip
      replace r : A0 l Z n0 D h 0 0 13 #[.val (.int t), .val (.int l_), .val (.int c_), .val (.int p), .val (.int d_), .val (.int sel), .val (.int v6_1), .unset, .unset, .unset, .unset, .unset, .unset, .unset, .unset, .unset, .unset, .unset] [] := Own.ifNo r at_10 ((if0 _ _).trans (feq c3).1)
      replace r : A0 l Z n0 D h 0 0 14 #[.val (.int t), .val (.int l_), .val (.int c_), .val (.int p), .val (.int d_), .val (.int sel), .val (.int v6_1), .unset, .unset, .unset, .unset, .unset, .unset, .unset, .unset, .unset, .unset, .unset] [(.int (1 : Int32))] := Own.iconst r at_13 rfl
      replace r : A0 l Z n0 D h 0 0 18 #[.val (.int t), .val (.int l_), .val (.int c_), .val (.int p), .val (.int d_), .val (.int sel), .val (.int v6_1), .unset, .unset, .unset, .unset, .unset, .unset, .unset, .unset, .unset, .unset, .unset] [(.int (1 : Int32))] := Own.goto r at_14 (by decide) (by decide)
      exact ⟨_, by rw [if_neg c3], r⟩
  replace r : A0 l Z n0 D h 0 0 20 #[.val (.int t), .val (.int l_), .val (.int c_), .val (.int p), .val (.int d_), .val (.int sel), .val (.int v6_1), .val (.int m2), .unset, .unset, .unset, .unset, .unset, .unset, .unset, .unset, .unset, .unset] [] := Own.istore r at_18 rfl
  replace r : A0 l Z n0 D h 0 0 22 #[.val (.int t), .val (.int l_), .val (.int c_), .val (.int p), .val (.int d_), .val (.int sel), .val (.int v6_1), .val (.int m2), .unset, .unset, .unset, .unset, .unset, .unset, .unset, .unset, .unset, .unset] [(.int sel)] := Own.iload r at_20 rfl
  replace r : A0 l Z n0 D h 0 0 23 #[.val (.int t), .val (.int l_), .val (.int c_), .val (.int p), .val (.int d_), .val (.int sel), .val (.int v6_1), .val (.int m2), .unset, .unset, .unset, .unset, .unset, .unset, .unset, .unset, .unset, .unset] [(.int (2 : Int32)), (.int sel)] := Own.iconst r at_22 rfl
  replace r : A0 l Z n0 D h 0 0 24 #[.val (.int t), .val (.int l_), .val (.int c_), .val (.int p), .val (.int d_), .val (.int sel), .val (.int v6_1), .val (.int m2), .unset, .unset, .unset, .unset, .unset, .unset, .unset, .unset, .unset, .unset] [(.int (sel &&& (2 : Int32)))] := Own.iand r at_23
  obtain ⟨m4, e_m4, r⟩ : ∃ (m4 : Int32), m4 = (if (sel &&& (2 : Int32)) = (0 : Int32) then (0 : Int32) else (1 : Int32)) ∧ A0 l Z n0 D h 0 0 32 #[.val (.int t), .val (.int l_), .val (.int c_), .val (.int p), .val (.int d_), .val (.int sel), .val (.int v6_1), .val (.int m2), .unset, .unset, .unset, .unset, .unset, .unset, .unset, .unset, .unset, .unset] [(.int m4)] := by
    by_cases c5 : (sel &&& (2 : Int32)) = (0 : Int32)
    · skip
      replace r : A0 l Z n0 D h 0 0 31 #[.val (.int t), .val (.int l_), .val (.int c_), .val (.int p), .val (.int d_), .val (.int sel), .val (.int v6_1), .val (.int m2), .unset, .unset, .unset, .unset, .unset, .unset, .unset, .unset, .unset, .unset] [] := Own.ifYes r at_24 ((if0 _ _).trans (teq c5).1) (by decide) (by decide)
      replace r : A0 l Z n0 D h 0 0 32 #[.val (.int t), .val (.int l_), .val (.int c_), .val (.int p), .val (.int d_), .val (.int sel), .val (.int v6_1), .val (.int m2), .unset, .unset, .unset, .unset, .unset, .unset, .unset, .unset, .unset, .unset] [(.int (0 : Int32))] := Own.iconst r at_31 rfl
      exact ⟨_, by rw [if_pos c5], r⟩
    · skip
      replace r : A0 l Z n0 D h 0 0 27 #[.val (.int t), .val (.int l_), .val (.int c_), .val (.int p), .val (.int d_), .val (.int sel), .val (.int v6_1), .val (.int m2), .unset, .unset, .unset, .unset, .unset, .unset, .unset, .unset, .unset, .unset] [] := Own.ifNo r at_24 ((if0 _ _).trans (feq c5).1)
      replace r : A0 l Z n0 D h 0 0 28 #[.val (.int t), .val (.int l_), .val (.int c_), .val (.int p), .val (.int d_), .val (.int sel), .val (.int v6_1), .val (.int m2), .unset, .unset, .unset, .unset, .unset, .unset, .unset, .unset, .unset, .unset] [(.int (1 : Int32))] := Own.iconst r at_27 rfl
      replace r : A0 l Z n0 D h 0 0 32 #[.val (.int t), .val (.int l_), .val (.int c_), .val (.int p), .val (.int d_), .val (.int sel), .val (.int v6_1), .val (.int m2), .unset, .unset, .unset, .unset, .unset, .unset, .unset, .unset, .unset, .unset] [(.int (1 : Int32))] := Own.goto r at_28 (by decide) (by decide)
      exact ⟨_, by rw [if_neg c5], r⟩
  replace r : A0 l Z n0 D h 0 0 34 #[.val (.int t), .val (.int l_), .val (.int c_), .val (.int p), .val (.int d_), .val (.int sel), .val (.int v6_1), .val (.int m2), .val (.int m4), .unset, .unset, .unset, .unset, .unset, .unset, .unset, .unset, .unset] [] := Own.istore r at_32 rfl
  replace r : A0 l Z n0 D h 0 0 36 #[.val (.int t), .val (.int l_), .val (.int c_), .val (.int p), .val (.int d_), .val (.int sel), .val (.int v6_1), .val (.int m2), .val (.int m4), .unset, .unset, .unset, .unset, .unset, .unset, .unset, .unset, .unset] [(.int sel)] := Own.iload r at_34 rfl
  replace r : A0 l Z n0 D h 0 0 37 #[.val (.int t), .val (.int l_), .val (.int c_), .val (.int p), .val (.int d_), .val (.int sel), .val (.int v6_1), .val (.int m2), .val (.int m4), .unset, .unset, .unset, .unset, .unset, .unset, .unset, .unset, .unset] [(.int (4 : Int32)), (.int sel)] := Own.iconst r at_36 rfl
  replace r : A0 l Z n0 D h 0 0 38 #[.val (.int t), .val (.int l_), .val (.int c_), .val (.int p), .val (.int d_), .val (.int sel), .val (.int v6_1), .val (.int m2), .val (.int m4), .unset, .unset, .unset, .unset, .unset, .unset, .unset, .unset, .unset] [(.int (sel &&& (4 : Int32)))] := Own.iand r at_37
  obtain ⟨m6, e_m6, r⟩ : ∃ (m6 : Int32), m6 = (if (sel &&& (4 : Int32)) = (0 : Int32) then (0 : Int32) else (1 : Int32)) ∧ A0 l Z n0 D h 0 0 46 #[.val (.int t), .val (.int l_), .val (.int c_), .val (.int p), .val (.int d_), .val (.int sel), .val (.int v6_1), .val (.int m2), .val (.int m4), .unset, .unset, .unset, .unset, .unset, .unset, .unset, .unset, .unset] [(.int m6)] := by
    by_cases c7 : (sel &&& (4 : Int32)) = (0 : Int32)
    · skip
      replace r : A0 l Z n0 D h 0 0 45 #[.val (.int t), .val (.int l_), .val (.int c_), .val (.int p), .val (.int d_), .val (.int sel), .val (.int v6_1), .val (.int m2), .val (.int m4), .unset, .unset, .unset, .unset, .unset, .unset, .unset, .unset, .unset] [] := Own.ifYes r at_38 ((if0 _ _).trans (teq c7).1) (by decide) (by decide)
      replace r : A0 l Z n0 D h 0 0 46 #[.val (.int t), .val (.int l_), .val (.int c_), .val (.int p), .val (.int d_), .val (.int sel), .val (.int v6_1), .val (.int m2), .val (.int m4), .unset, .unset, .unset, .unset, .unset, .unset, .unset, .unset, .unset] [(.int (0 : Int32))] := Own.iconst r at_45 rfl
      exact ⟨_, by rw [if_pos c7], r⟩
    · skip
      replace r : A0 l Z n0 D h 0 0 41 #[.val (.int t), .val (.int l_), .val (.int c_), .val (.int p), .val (.int d_), .val (.int sel), .val (.int v6_1), .val (.int m2), .val (.int m4), .unset, .unset, .unset, .unset, .unset, .unset, .unset, .unset, .unset] [] := Own.ifNo r at_38 ((if0 _ _).trans (feq c7).1)
      replace r : A0 l Z n0 D h 0 0 42 #[.val (.int t), .val (.int l_), .val (.int c_), .val (.int p), .val (.int d_), .val (.int sel), .val (.int v6_1), .val (.int m2), .val (.int m4), .unset, .unset, .unset, .unset, .unset, .unset, .unset, .unset, .unset] [(.int (1 : Int32))] := Own.iconst r at_41 rfl
      replace r : A0 l Z n0 D h 0 0 46 #[.val (.int t), .val (.int l_), .val (.int c_), .val (.int p), .val (.int d_), .val (.int sel), .val (.int v6_1), .val (.int m2), .val (.int m4), .unset, .unset, .unset, .unset, .unset, .unset, .unset, .unset, .unset] [(.int (1 : Int32))] := Own.goto r at_42 (by decide) (by decide)
      exact ⟨_, by rw [if_neg c7], r⟩
  replace r : A0 l Z n0 D h 0 0 48 #[.val (.int t), .val (.int l_), .val (.int c_), .val (.int p), .val (.int d_), .val (.int sel), .val (.int v6_1), .val (.int m2), .val (.int m4), .val (.int m6), .unset, .unset, .unset, .unset, .unset, .unset, .unset, .unset] [] := Own.istore r at_46 rfl
  replace r : A0 l Z n0 D h 0 0 50 #[.val (.int t), .val (.int l_), .val (.int c_), .val (.int p), .val (.int d_), .val (.int sel), .val (.int v6_1), .val (.int m2), .val (.int m4), .val (.int m6), .unset, .unset, .unset, .unset, .unset, .unset, .unset, .unset] [(.int m2)] := Own.iload r at_48 rfl
  obtain ⟨m8, e_m8, r⟩ : ∃ (m8 : Int32), m8 = (if m2 = (0 : Int32) then (t + v6_1) else t) ∧ A0 l Z n0 D h 0 0 61 #[.val (.int t), .val (.int l_), .val (.int c_), .val (.int p), .val (.int d_), .val (.int sel), .val (.int v6_1), .val (.int m2), .val (.int m4), .val (.int m6), .unset, .unset, .unset, .unset, .unset, .unset, .unset, .unset] [(.int m8)] := by
    by_cases c9 : m2 = (0 : Int32)
    · skip
      replace r : A0 l Z n0 D h 0 0 57 #[.val (.int t), .val (.int l_), .val (.int c_), .val (.int p), .val (.int d_), .val (.int sel), .val (.int v6_1), .val (.int m2), .val (.int m4), .val (.int m6), .unset, .unset, .unset, .unset, .unset, .unset, .unset, .unset] [] := Own.ifYes r at_50 ((if0 _ _).trans (teq c9).1) (by decide) (by decide)
      replace r : A0 l Z n0 D h 0 0 58 #[.val (.int t), .val (.int l_), .val (.int c_), .val (.int p), .val (.int d_), .val (.int sel), .val (.int v6_1), .val (.int m2), .val (.int m4), .val (.int m6), .unset, .unset, .unset, .unset, .unset, .unset, .unset, .unset] [(.int t)] := Own.iloadN r at_57 rfl
      replace r : A0 l Z n0 D h 0 0 60 #[.val (.int t), .val (.int l_), .val (.int c_), .val (.int p), .val (.int d_), .val (.int sel), .val (.int v6_1), .val (.int m2), .val (.int m4), .val (.int m6), .unset, .unset, .unset, .unset, .unset, .unset, .unset, .unset] [(.int v6_1), (.int t)] := Own.iload r at_58 rfl
      replace r : A0 l Z n0 D h 0 0 61 #[.val (.int t), .val (.int l_), .val (.int c_), .val (.int p), .val (.int d_), .val (.int sel), .val (.int v6_1), .val (.int m2), .val (.int m4), .val (.int m6), .unset, .unset, .unset, .unset, .unset, .unset, .unset, .unset] [(.int (t + v6_1))] := Own.iadd r at_60
      exact ⟨_, by rw [if_pos c9], r⟩
    · skip
      replace r : A0 l Z n0 D h 0 0 53 #[.val (.int t), .val (.int l_), .val (.int c_), .val (.int p), .val (.int d_), .val (.int sel), .val (.int v6_1), .val (.int m2), .val (.int m4), .val (.int m6), .unset, .unset, .unset, .unset, .unset, .unset, .unset, .unset] [] := Own.ifNo r at_50 ((if0 _ _).trans (feq c9).1)
      replace r : A0 l Z n0 D h 0 0 54 #[.val (.int t), .val (.int l_), .val (.int c_), .val (.int p), .val (.int d_), .val (.int sel), .val (.int v6_1), .val (.int m2), .val (.int m4), .val (.int m6), .unset, .unset, .unset, .unset, .unset, .unset, .unset, .unset] [(.int t)] := Own.iloadN r at_53 rfl
      replace r : A0 l Z n0 D h 0 0 61 #[.val (.int t), .val (.int l_), .val (.int c_), .val (.int p), .val (.int d_), .val (.int sel), .val (.int v6_1), .val (.int m2), .val (.int m4), .val (.int m6), .unset, .unset, .unset, .unset, .unset, .unset, .unset, .unset] [(.int t)] := Own.goto r at_54 (by decide) (by decide)
      exact ⟨_, by rw [if_neg c9], r⟩
  replace r : A0 l Z n0 D h 0 0 63 #[.val (.int t), .val (.int l_), .val (.int c_), .val (.int p), .val (.int d_), .val (.int sel), .val (.int v6_1), .val (.int m2), .val (.int m4), .val (.int m6), .val (.int m8), .unset, .unset, .unset, .unset, .unset, .unset, .unset] [] := Own.istore r at_61 rfl
  replace r : A0 l Z n0 D h 0 0 65 #[.val (.int t), .val (.int l_), .val (.int c_), .val (.int p), .val (.int d_), .val (.int sel), .val (.int v6_1), .val (.int m2), .val (.int m4), .val (.int m6), .val (.int m8), .unset, .unset, .unset, .unset, .unset, .unset, .unset] [(.int m4)] := Own.iload r at_63 rfl
  obtain ⟨m10, e_m10, r⟩ : ∃ (m10 : Int32), m10 = (if m4 = (0 : Int32) then (l_ ^^^ v6_1) else l_) ∧ A0 l Z n0 D h 0 0 76 #[.val (.int t), .val (.int l_), .val (.int c_), .val (.int p), .val (.int d_), .val (.int sel), .val (.int v6_1), .val (.int m2), .val (.int m4), .val (.int m6), .val (.int m8), .unset, .unset, .unset, .unset, .unset, .unset, .unset] [(.int m10)] := by
    by_cases c11 : m4 = (0 : Int32)
    · skip
      replace r : A0 l Z n0 D h 0 0 72 #[.val (.int t), .val (.int l_), .val (.int c_), .val (.int p), .val (.int d_), .val (.int sel), .val (.int v6_1), .val (.int m2), .val (.int m4), .val (.int m6), .val (.int m8), .unset, .unset, .unset, .unset, .unset, .unset, .unset] [] := Own.ifYes r at_65 ((if0 _ _).trans (teq c11).1) (by decide) (by decide)
      replace r : A0 l Z n0 D h 0 0 73 #[.val (.int t), .val (.int l_), .val (.int c_), .val (.int p), .val (.int d_), .val (.int sel), .val (.int v6_1), .val (.int m2), .val (.int m4), .val (.int m6), .val (.int m8), .unset, .unset, .unset, .unset, .unset, .unset, .unset] [(.int l_)] := Own.iloadN r at_72 rfl
      replace r : A0 l Z n0 D h 0 0 75 #[.val (.int t), .val (.int l_), .val (.int c_), .val (.int p), .val (.int d_), .val (.int sel), .val (.int v6_1), .val (.int m2), .val (.int m4), .val (.int m6), .val (.int m8), .unset, .unset, .unset, .unset, .unset, .unset, .unset] [(.int v6_1), (.int l_)] := Own.iload r at_73 rfl
      replace r : A0 l Z n0 D h 0 0 76 #[.val (.int t), .val (.int l_), .val (.int c_), .val (.int p), .val (.int d_), .val (.int sel), .val (.int v6_1), .val (.int m2), .val (.int m4), .val (.int m6), .val (.int m8), .unset, .unset, .unset, .unset, .unset, .unset, .unset] [(.int (l_ ^^^ v6_1))] := Own.ixor r at_75
      exact ⟨_, by rw [if_pos c11], r⟩
    · skip
      replace r : A0 l Z n0 D h 0 0 68 #[.val (.int t), .val (.int l_), .val (.int c_), .val (.int p), .val (.int d_), .val (.int sel), .val (.int v6_1), .val (.int m2), .val (.int m4), .val (.int m6), .val (.int m8), .unset, .unset, .unset, .unset, .unset, .unset, .unset] [] := Own.ifNo r at_65 ((if0 _ _).trans (feq c11).1)
      replace r : A0 l Z n0 D h 0 0 69 #[.val (.int t), .val (.int l_), .val (.int c_), .val (.int p), .val (.int d_), .val (.int sel), .val (.int v6_1), .val (.int m2), .val (.int m4), .val (.int m6), .val (.int m8), .unset, .unset, .unset, .unset, .unset, .unset, .unset] [(.int l_)] := Own.iloadN r at_68 rfl
      replace r : A0 l Z n0 D h 0 0 76 #[.val (.int t), .val (.int l_), .val (.int c_), .val (.int p), .val (.int d_), .val (.int sel), .val (.int v6_1), .val (.int m2), .val (.int m4), .val (.int m6), .val (.int m8), .unset, .unset, .unset, .unset, .unset, .unset, .unset] [(.int l_)] := Own.goto r at_69 (by decide) (by decide)
      exact ⟨_, by rw [if_neg c11], r⟩
  replace r : A0 l Z n0 D h 0 0 78 #[.val (.int t), .val (.int l_), .val (.int c_), .val (.int p), .val (.int d_), .val (.int sel), .val (.int v6_1), .val (.int m2), .val (.int m4), .val (.int m6), .val (.int m8), .val (.int m10), .unset, .unset, .unset, .unset, .unset, .unset] [] := Own.istore r at_76 rfl
  replace r : A0 l Z n0 D h 0 0 80 #[.val (.int t), .val (.int l_), .val (.int c_), .val (.int p), .val (.int d_), .val (.int sel), .val (.int v6_1), .val (.int m2), .val (.int m4), .val (.int m6), .val (.int m8), .val (.int m10), .unset, .unset, .unset, .unset, .unset, .unset] [(.int m6)] := Own.iload r at_78 rfl
  obtain ⟨m12, e_m12, r⟩ : ∃ (m12 : Int32), m12 = (if m6 = (0 : Int32) then (c_ - v6_1) else c_) ∧ A0 l Z n0 D h 0 0 91 #[.val (.int t), .val (.int l_), .val (.int c_), .val (.int p), .val (.int d_), .val (.int sel), .val (.int v6_1), .val (.int m2), .val (.int m4), .val (.int m6), .val (.int m8), .val (.int m10), .unset, .unset, .unset, .unset, .unset, .unset] [(.int m12)] := by
    by_cases c13 : m6 = (0 : Int32)
    · skip
      replace r : A0 l Z n0 D h 0 0 87 #[.val (.int t), .val (.int l_), .val (.int c_), .val (.int p), .val (.int d_), .val (.int sel), .val (.int v6_1), .val (.int m2), .val (.int m4), .val (.int m6), .val (.int m8), .val (.int m10), .unset, .unset, .unset, .unset, .unset, .unset] [] := Own.ifYes r at_80 ((if0 _ _).trans (teq c13).1) (by decide) (by decide)
      replace r : A0 l Z n0 D h 0 0 88 #[.val (.int t), .val (.int l_), .val (.int c_), .val (.int p), .val (.int d_), .val (.int sel), .val (.int v6_1), .val (.int m2), .val (.int m4), .val (.int m6), .val (.int m8), .val (.int m10), .unset, .unset, .unset, .unset, .unset, .unset] [(.int c_)] := Own.iloadN r at_87 rfl
      replace r : A0 l Z n0 D h 0 0 90 #[.val (.int t), .val (.int l_), .val (.int c_), .val (.int p), .val (.int d_), .val (.int sel), .val (.int v6_1), .val (.int m2), .val (.int m4), .val (.int m6), .val (.int m8), .val (.int m10), .unset, .unset, .unset, .unset, .unset, .unset] [(.int v6_1), (.int c_)] := Own.iload r at_88 rfl
      replace r : A0 l Z n0 D h 0 0 91 #[.val (.int t), .val (.int l_), .val (.int c_), .val (.int p), .val (.int d_), .val (.int sel), .val (.int v6_1), .val (.int m2), .val (.int m4), .val (.int m6), .val (.int m8), .val (.int m10), .unset, .unset, .unset, .unset, .unset, .unset] [(.int (c_ - v6_1))] := Own.isub r at_90
      exact ⟨_, by rw [if_pos c13], r⟩
    · skip
      replace r : A0 l Z n0 D h 0 0 83 #[.val (.int t), .val (.int l_), .val (.int c_), .val (.int p), .val (.int d_), .val (.int sel), .val (.int v6_1), .val (.int m2), .val (.int m4), .val (.int m6), .val (.int m8), .val (.int m10), .unset, .unset, .unset, .unset, .unset, .unset] [] := Own.ifNo r at_80 ((if0 _ _).trans (feq c13).1)
      replace r : A0 l Z n0 D h 0 0 84 #[.val (.int t), .val (.int l_), .val (.int c_), .val (.int p), .val (.int d_), .val (.int sel), .val (.int v6_1), .val (.int m2), .val (.int m4), .val (.int m6), .val (.int m8), .val (.int m10), .unset, .unset, .unset, .unset, .unset, .unset] [(.int c_)] := Own.iloadN r at_83 rfl
      replace r : A0 l Z n0 D h 0 0 91 #[.val (.int t), .val (.int l_), .val (.int c_), .val (.int p), .val (.int d_), .val (.int sel), .val (.int v6_1), .val (.int m2), .val (.int m4), .val (.int m6), .val (.int m8), .val (.int m10), .unset, .unset, .unset, .unset, .unset, .unset] [(.int c_)] := Own.goto r at_84 (by decide) (by decide)
      exact ⟨_, by rw [if_neg c13], r⟩
  replace r : A0 l Z n0 D h 0 0 93 #[.val (.int t), .val (.int l_), .val (.int c_), .val (.int p), .val (.int d_), .val (.int sel), .val (.int v6_1), .val (.int m2), .val (.int m4), .val (.int m6), .val (.int m8), .val (.int m10), .val (.int m12), .unset, .unset, .unset, .unset, .unset] [] := Own.istore r at_91 rfl
  replace r : A0 l Z n0 D h 0 0 94 #[.val (.int t), .val (.int l_), .val (.int c_), .val (.int p), .val (.int d_), .val (.int sel), .val (.int v6_1), .val (.int m2), .val (.int m4), .val (.int m6), .val (.int m8), .val (.int m10), .val (.int m12), .unset, .unset, .unset, .unset, .unset] [(.int (0 : Int32))] := Own.iconst r at_93 rfl
  obtain ⟨h14, ⟨E14, V_b14⟩, r⟩ := Own.newArr r at_94 (hw _ (List.mem_of_getElem? (i := 0) rfl)) (by decide) (cap := 0) (by decide) (by decide) (by decide) (by decide)
  obtain ⟨b14, g14⟩ : ∃ z, z = h.size := ⟨_, rfl⟩
  rw [← g14] at V_b14 r
  have ge_b14 : n0 ≤ b14 := Nat.le_trans Zs (Nat.le_of_eq g14.symm)
  replace Zs := Nat.le_trans Zs E14.1
  replace r : A0 l Z n0 D h14 1 0 96 #[.val (.int t), .val (.int l_), .val (.int c_), .val (.int p), .val (.int d_), .val (.int sel), .val (.int v6_1), .val (.int m2), .val (.int m4), .val (.int m6), .val (.int m8), .val (.int m10), .val (.int m12), .unset, .unset, .unset, .unset, .unset] [(.ref b14)] := r
  replace V_b14 : Own.VA Z h14 b14 .byte [] := V_b14
  replace r : A0 l Z n0 D h14 1 0 98 #[.val (.int t), .val (.int l_), .val (.int c_), .val (.int p), .val (.int d_), .val (.int sel), .val (.int v6_1), .val (.int m2), .val (.int m4), .val (.int m6), .val (.int m8), .val (.int m10), .val (.int m12), .val (.ref b14), .unset, .unset, .unset, .unset] [] := Own.astore r at_96 rfl rfl
  replace r : A0 l Z n0 D h14 1 0 100 #[.val (.int t), .val (.int l_), .val (.int c_), .val (.int p), .val (.int d_), .val (.int sel), .val (.int v6_1), .val (.int m2), .val (.int m4), .val (.int m6), .val (.int m8), .val (.int m10), .val (.int m12), .val (.ref b14), .unset, .unset, .unset, .unset] [(.int sel)] := Own.iload r at_98 rfl
  replace r : A0 l Z n0 D h14 1 0 101 #[.val (.int t), .val (.int l_), .val (.int c_), .val (.int p), .val (.int d_), .val (.int sel), .val (.int v6_1), .val (.int m2), .val (.int m4), .val (.int m6), .val (.int m8), .val (.int m10), .val (.int m12), .val (.ref b14), .unset, .unset, .unset, .unset] [(.int (3 : Int32)), (.int sel)] := Own.iconst r at_100 rfl
  replace r : A0 l Z n0 D h14 1 0 102 #[.val (.int t), .val (.int l_), .val (.int c_), .val (.int p), .val (.int d_), .val (.int sel), .val (.int v6_1), .val (.int m2), .val (.int m4), .val (.int m6), .val (.int m8), .val (.int m10), .val (.int m12), .val (.ref b14), .unset, .unset, .unset, .unset] [(.int (Own.iushrW sel (3 : Int32)))] := Own.iushr r at_101
  replace r : A0 l Z n0 D h14 1 0 103 #[.val (.int t), .val (.int l_), .val (.int c_), .val (.int p), .val (.int d_), .val (.int sel), .val (.int v6_1), .val (.int m2), .val (.int m4), .val (.int m6), .val (.int m8), .val (.int m10), .val (.int m12), .val (.ref b14), .unset, .unset, .unset, .unset] [(.int (1 : Int32)), (.int (Own.iushrW sel (3 : Int32)))] := Own.iconst r at_102 rfl
  replace r : A0 l Z n0 D h14 1 0 104 #[.val (.int t), .val (.int l_), .val (.int c_), .val (.int p), .val (.int d_), .val (.int sel), .val (.int v6_1), .val (.int m2), .val (.int m4), .val (.int m6), .val (.int m8), .val (.int m10), .val (.int m12), .val (.ref b14), .unset, .unset, .unset, .unset] [(.int ((Own.iushrW sel (3 : Int32)) &&& (1 : Int32)))] := Own.iand r at_103
  obtain ⟨h15, ⟨E15, V_b15⟩, r⟩ := Own.newArr r at_104 (hw _ (List.mem_of_getElem? (i := 0) rfl)) (own_len _).1 (cap := 1) (own_len _).2 (by decide) (by decide) (by decide)
  obtain ⟨b15, g15⟩ : ∃ z, z = h14.size := ⟨_, rfl⟩
  rw [← g15] at V_b15 r
  have ge_b15 : n0 ≤ b15 := Nat.le_trans Zs (Nat.le_of_eq g15.symm)
  have ne_b14_b15 : b14 ≠ b15 := Own.ne_lt V_b14.lt g15
  replace V_b14 := V_b14.ext E15
  replace Zs := Nat.le_trans Zs E15.1
  replace r : A0 l Z n0 D h15 2 1 106 #[.val (.int t), .val (.int l_), .val (.int c_), .val (.int p), .val (.int d_), .val (.int sel), .val (.int v6_1), .val (.int m2), .val (.int m4), .val (.int m6), .val (.int m8), .val (.int m10), .val (.int m12), .val (.ref b14), .unset, .unset, .unset, .unset] [(.ref b15)] := r
  replace r : A0 l Z n0 D h15 2 1 108 #[.val (.int t), .val (.int l_), .val (.int c_), .val (.int p), .val (.int d_), .val (.int sel), .val (.int v6_1), .val (.int m2), .val (.int m4), .val (.int m6), .val (.int m8), .val (.int m10), .val (.int m12), .val (.ref b14), .val (.ref b15), .unset, .unset, .unset] [] := Own.astore r at_106 rfl rfl
  obtain ⟨h16, ⟨E16, X_b16, D16⟩, r⟩ := Own.newObj r at_108 (hw _ (List.mem_of_getElem? (i := 1) rfl)) (hw _ (List.mem_of_getElem? (i := 2) rfl)) (hw _ (List.mem_of_getElem? (i := 3) rfl)) (by decide) (by decide)
  obtain ⟨b16, g16⟩ : ∃ z, z = h15.size := ⟨_, rfl⟩
  rw [← g16] at X_b16 D16 r
  have ge_b16 : n0 ≤ b16 := Nat.le_trans Zs (Nat.le_of_eq g16.symm)
  have ne_b14_b16 : b14 ≠ b16 := Own.ne_lt V_b14.lt g16
  have ne_b15_b16 : b15 ≠ b16 := Own.ne_lt V_b15.lt g16
  replace V_b14 := V_b14.ext E16
  replace V_b15 := V_b15.ext E16
  replace Zs := Nat.le_trans Zs E16.1
  replace r : A0 l Z n0 D h16 3 6 111 #[.val (.int t), .val (.int l_), .val (.int c_), .val (.int p), .val (.int d_), .val (.int sel), .val (.int v6_1), .val (.int m2), .val (.int m4), .val (.int m6), .val (.int m8), .val (.int m10), .val (.int m12), .val (.ref b14), .val (.ref b15), .unset, .unset, .unset] [(.ref b16)] := r
  have F_type_b16 : Fld Z h16 b16 "com/example/syncline/syncline/protocol/rpc/Pdu$Trailer" "type" "I" (.int (0 : Int32)) := D16 (Or.inr (hw _ (List.mem_of_getElem? (i := 16) rfl))) (ty := .int) (by decide)
  have F_level_b16 : Fld Z h16 b16 "com/example/syncline/syncline/protocol/rpc/Pdu$Trailer" "level" "I" (.int (0 : Int32)) := D16 (Or.inr (hw _ (List.mem_of_getElem? (i := 18) rfl))) (ty := .int) (by decide)
  have F_padding_b16 : Fld Z h16 b16 "com/example/syncline/syncline/protocol/rpc/Pdu$Trailer" "padding" "I" (.int (0 : Int32)) := D16 (Or.inr (hw _ (List.mem_of_getElem? (i := 20) rfl))) (ty := .int) (by decide)
  have F_contextId_b16 : Fld Z h16 b16 "com/example/syncline/syncline/protocol/rpc/Pdu$Trailer" "contextId" "I" (.int (0 : Int32)) := D16 (Or.inr (hw _ (List.mem_of_getElem? (i := 22) rfl))) (ty := .int) (by decide)
  have F_token_b16 : Fld Z h16 b16 "com/example/syncline/syncline/protocol/rpc/Pdu$Trailer" "token" "[B" .null := D16 (Or.inr (hw _ (List.mem_of_getElem? (i := 24) rfl))) (ty := (.array .byte)) (by decide)
  replace r : A0 l Z n0 D h16 3 6 112 #[.val (.int t), .val (.int l_), .val (.int c_), .val (.int p), .val (.int d_), .val (.int sel), .val (.int v6_1), .val (.int m2), .val (.int m4), .val (.int m6), .val (.int m8), .val (.int m10), .val (.int m12), .val (.ref b14), .val (.ref b15), .unset, .unset, .unset] [(.ref b16), (.ref b16)] := Own.dup r at_111 rfl
  replace r : A0 l Z n0 D h16 3 6 113 #[.val (.int t), .val (.int l_), .val (.int c_), .val (.int p), .val (.int d_), .val (.int sel), .val (.int v6_1), .val (.int m2), .val (.int m4), .val (.int m6), .val (.int m8), .val (.int m10), .val (.int m12), .val (.ref b14), .val (.ref b15), .unset, .unset, .unset] [(.int t), (.ref b16), (.ref b16)] := Own.iloadN r at_112 rfl
  replace r : A0 l Z n0 D h16 3 6 114 #[.val (.int t), .val (.int l_), .val (.int c_), .val (.int p), .val (.int d_), .val (.int sel), .val (.int v6_1), .val (.int m2), .val (.int m4), .val (.int m6), .val (.int m8), .val (.int m10), .val (.int m12), .val (.ref b14), .val (.ref b15), .unset, .unset, .unset] [(.int l_), (.int t), (.ref b16), (.ref b16)] := Own.iloadN r at_113 rfl
  replace r : A0 l Z n0 D h16 3 6 115 #[.val (.int t), .val (.int l_), .val (.int c_), .val (.int p), .val (.int d_), .val (.int sel), .val (.int v6_1), .val (.int m2), .val (.int m4), .val (.int m6), .val (.int m8), .val (.int m10), .val (.int m12), .val (.ref b14), .val (.ref b15), .unset, .unset, .unset] [(.int p), (.int l_), (.int t), (.ref b16), (.ref b16)] := Own.iloadN r at_114 rfl
  replace r : A0 l Z n0 D h16 3 6 116 #[.val (.int t), .val (.int l_), .val (.int c_), .val (.int p), .val (.int d_), .val (.int sel), .val (.int v6_1), .val (.int m2), .val (.int m4), .val (.int m6), .val (.int m8), .val (.int m10), .val (.int m12), .val (.ref b14), .val (.ref b15), .unset, .unset, .unset] [(.int c_), (.int p), (.int l_), (.int t), (.ref b16), (.ref b16)] := Own.iloadN r at_115 rfl
  replace r : A0 l Z n0 D h16 3 6 118 #[.val (.int t), .val (.int l_), .val (.int c_), .val (.int p), .val (.int d_), .val (.int sel), .val (.int v6_1), .val (.int m2), .val (.int m4), .val (.int m6), .val (.int m8), .val (.int m10), .val (.int m12), .val (.ref b14), .val (.ref b15), .unset, .unset, .unset] [(.ref b14), (.int c_), (.int p), (.int l_), (.int t), (.ref b16), (.ref b16)] := Own.aload r at_116 rfl rfl
  obtain ⟨rv17, h18, hQ19, r⟩ := Own.callI [(.int t), (.int l_), (.int p), (.int c_), (.ref b14)] r at_118 (c1 l Z a0 hw n0 h16 Zs b16 t l_ p c_ b14 _ _ _ _ _ F_type_b16 F_level_b16 F_padding_b16 F_contextId_b16 F_token_b16 X_b16 ge_b16) (hw _ (List.mem_of_getElem? (i := 4) rfl)) (hw _ (List.mem_of_getElem? (i := 5) rfl)) (hw _ (List.mem_of_getElem? (i := 3) rfl)) (hw _ (List.mem_of_getElem? (i := 6) rfl)) rfl (lenOf pd_0_0 rfl) rfl rfl (W := 1) (Nat.le_of_eq rfl) rfl (by decide) (by decide) (by decide) (by decide) (by decide)
  obtain ⟨rfl, K20, X_b16, F_type_b16, F_level_b16, F_padding_b16, F_contextId_b16, F_token_b16⟩ := hQ19
  replace V_b14 := V_b14.keep K20 (by simp [ne_b14_b16])
  replace V_b15 := V_b15.keep K20 (by simp [ne_b15_b16])
  replace Zs := Nat.le_trans Zs K20.1
  replace r : A0 l Z n0 D h18 3 6 121 #[.val (.int t), .val (.int l_), .val (.int c_), .val (.int p), .val (.int d_), .val (.int sel), .val (.int v6_1), .val (.int m2), .val (.int m4), .val (.int m6), .val (.int m8), .val (.int m10), .val (.int m12), .val (.ref b14), .val (.ref b15), .unset, .unset, .unset] [(.ref b16)] := r
  replace r : A0 l Z n0 D h18 3 6 123 #[.val (.int t), .val (.int l_), .val (.int c_), .val (.int p), .val (.int d_), .val (.int sel), .val (.int v6_1), .val (.int m2), .val (.int m4), .val (.int m6), .val (.int m8), .val (.int m10), .val (.int m12), .val (.ref b14), .val (.ref b15), .val (.ref b16), .unset, .unset] [] := Own.astore r at_121 rfl rfl
  obtain ⟨h21, ⟨E21, X_b21, D21⟩, r⟩ := Own.newObj r at_123 (hw _ (List.mem_of_getElem? (i := 1) rfl)) (hw _ (List.mem_of_getElem? (i := 2) rfl)) (hw _ (List.mem_of_getElem? (i := 3) rfl)) (by decide) (by decide)
  obtain ⟨b21, g21⟩ : ∃ z, z = h18.size := ⟨_, rfl⟩
  rw [← g21] at X_b21 D21 r
  have ge_b21 : n0 ≤ b21 := Nat.le_trans Zs (Nat.le_of_eq g21.symm)
  have ne_b14_b21 : b14 ≠ b21 := Own.ne_lt V_b14.lt g21
  have ne_b15_b21 : b15 ≠ b21 := Own.ne_lt V_b15.lt g21
  have ne_b16_b21 : b16 ≠ b21 := Own.ne_lt X_b16.lt g21
  replace V_b14 := V_b14.ext E21
  replace V_b15 := V_b15.ext E21
  replace X_b16 := X_b16.ext E21
  replace F_type_b16 := F_type_b16.ext E21
  replace F_level_b16 := F_level_b16.ext E21
  replace F_padding_b16 := F_padding_b16.ext E21
  replace F_contextId_b16 := F_contextId_b16.ext E21
  replace F_token_b16 := F_token_b16.ext E21
  replace Zs := Nat.le_trans Zs E21.1
  replace r : A0 l Z n0 D h21 4 11 126 #[.val (.int t), .val (.int l_), .val (.int c_), .val (.int p), .val (.int d_), .val (.int sel), .val (.int v6_1), .val (.int m2), .val (.int m4), .val (.int m6), .val (.int m8), .val (.int m10), .val (.int m12), .val (.ref b14), .val (.ref b15), .val (.ref b16), .unset, .unset] [(.ref b21)] := r
  have F_type_b21 : Fld Z h21 b21 "com/example/syncline/syncline/protocol/rpc/Pdu$Trailer" "type" "I" (.int (0 : Int32)) := D21 (Or.inr (hw _ (List.mem_of_getElem? (i := 16) rfl))) (ty := .int) (by decide)
  have F_level_b21 : Fld Z h21 b21 "com/example/syncline/syncline/protocol/rpc/Pdu$Trailer" "level" "I" (.int (0 : Int32)) := D21 (Or.inr (hw _ (List.mem_of_getElem? (i := 18) rfl))) (ty := .int) (by decide)
  have F_padding_b21 : Fld Z h21 b21 "com/example/syncline/syncline/protocol/rpc/Pdu$Trailer" "padding" "I" (.int (0 : Int32)) := D21 (Or.inr (hw _ (List.mem_of_getElem? (i := 20) rfl))) (ty := .int) (by decide)
  have F_contextId_b21 : Fld Z h21 b21 "com/example/syncline/syncline/protocol/rpc/Pdu$Trailer" "contextId" "I" (.int (0 : Int32)) := D21 (Or.inr (hw _ (List.mem_of_getElem? (i := 22) rfl))) (ty := .int) (by decide)
  have F_token_b21 : Fld Z h21 b21 "com/example/syncline/syncline/protocol/rpc/Pdu$Trailer" "token" "[B" .null := D21 (Or.inr (hw _ (List.mem_of_getElem? (i := 24) rfl))) (ty := (.array .byte)) (by decide)
  replace r : A0 l Z n0 D h21 4 11 127 #[.val (.int t), .val (.int l_), .val (.int c_), .val (.int p), .val (.int d_), .val (.int sel), .val (.int v6_1), .val (.int m2), .val (.int m4), .val (.int m6), .val (.int m8), .val (.int m10), .val (.int m12), .val (.ref b14), .val (.ref b15), .val (.ref b16), .unset, .unset] [(.ref b21), (.ref b21)] := Own.dup r at_126 rfl
  replace r : A0 l Z n0 D h21 4 11 129 #[.val (.int t), .val (.int l_), .val (.int c_), .val (.int p), .val (.int d_), .val (.int sel), .val (.int v6_1), .val (.int m2), .val (.int m4), .val (.int m6), .val (.int m8), .val (.int m10), .val (.int m12), .val (.ref b14), .val (.ref b15), .val (.ref b16), .unset, .unset] [(.int m8), (.ref b21), (.ref b21)] := Own.iload r at_127 rfl
  replace r : A0 l Z n0 D h21 4 11 131 #[.val (.int t), .val (.int l_), .val (.int c_), .val (.int p), .val (.int d_), .val (.int sel), .val (.int v6_1), .val (.int m2), .val (.int m4), .val (.int m6), .val (.int m8), .val (.int m10), .val (.int m12), .val (.ref b14), .val (.ref b15), .val (.ref b16), .unset, .unset] [(.int m10), (.int m8), (.ref b21), (.ref b21)] := Own.iload r at_129 rfl
  replace r : A0 l Z n0 D h21 4 11 133 #[.val (.int t), .val (.int l_), .val (.int c_), .val (.int p), .val (.int d_), .val (.int sel), .val (.int v6_1), .val (.int m2), .val (.int m4), .val (.int m6), .val (.int m8), .val (.int m10), .val (.int m12), .val (.ref b14), .val (.ref b15), .val (.ref b16), .unset, .unset] [(.int d_), (.int m10), (.int m8), (.ref b21), (.ref b21)] := Own.iload r at_131 rfl
  replace r : A0 l Z n0 D h21 4 11 135 #[.val (.int t), .val (.int l_), .val (.int c_), .val (.int p), .val (.int d_), .val (.int sel), .val (.int v6_1), .val (.int m2), .val (.int m4), .val (.int m6), .val (.int m8), .val (.int m10), .val (.int m12), .val (.ref b14), .val (.ref b15), .val (.ref b16), .unset, .unset] [(.int m12), (.int d_), (.int m10), (.int m8), (.ref b21), (.ref b21)] := Own.iload r at_133 rfl
  replace r : A0 l Z n0 D h21 4 11 137 #[.val (.int t), .val (.int l_), .val (.int c_), .val (.int p), .val (.int d_), .val (.int sel), .val (.int v6_1), .val (.int m2), .val (.int m4), .val (.int m6), .val (.int m8), .val (.int m10), .val (.int m12), .val (.ref b14), .val (.ref b15), .val (.ref b16), .unset, .unset] [(.ref b15), (.int m12), (.int d_), (.int m10), (.int m8), (.ref b21), (.ref b21)] := Own.aload r at_135 rfl rfl
  obtain ⟨rv22, h23, hQ24, r⟩ := Own.callI [(.int m8), (.int m10), (.int d_), (.int m12), (.ref b15)] r at_137 (c1 l Z a0 hw n0 h21 Zs b21 m8 m10 d_ m12 b15 _ _ _ _ _ F_type_b21 F_level_b21 F_padding_b21 F_contextId_b21 F_token_b21 X_b21 ge_b21) (hw _ (List.mem_of_getElem? (i := 4) rfl)) (hw _ (List.mem_of_getElem? (i := 5) rfl)) (hw _ (List.mem_of_getElem? (i := 3) rfl)) (hw _ (List.mem_of_getElem? (i := 6) rfl)) rfl (lenOf pd_0_0 rfl) rfl rfl (W := 1) (Nat.le_of_eq rfl) rfl (by decide) (by decide) (by decide) (by decide) (by decide)
  obtain ⟨rfl, K25, X_b21, F_type_b21, F_level_b21, F_padding_b21, F_contextId_b21, F_token_b21⟩ := hQ24
  replace V_b14 := V_b14.keep K25 (by simp [ne_b14_b21])
  replace V_b15 := V_b15.keep K25 (by simp [ne_b15_b21])
  replace X_b16 := X_b16.keep K25
  replace F_type_b16 := F_type_b16.keep K25 (by simp [ne_b16_b21])
  replace F_level_b16 := F_level_b16.keep K25 (by simp [ne_b16_b21])
  replace F_padding_b16 := F_padding_b16.keep K25 (by simp [ne_b16_b21])
  replace F_contextId_b16 := F_contextId_b16.keep K25 (by simp [ne_b16_b21])
  replace F_token_b16 := F_token_b16.keep K25 (by simp [ne_b16_b21])
  replace Zs := Nat.le_trans Zs K25.1
  replace r : A0 l Z n0 D h23 4 11 140 #[.val (.int t), .val (.int l_), .val (.int c_), .val (.int p), .val (.int d_), .val (.int sel), .val (.int v6_1), .val (.int m2), .val (.int m4), .val (.int m6), .val (.int m8), .val (.int m10), .val (.int m12), .val (.ref b14), .val (.ref b15), .val (.ref b16), .unset, .unset] [(.ref b21)] := r
  replace r : A0 l Z n0 D h23 4 11 142 #[.val (.int t), .val (.int l_), .val (.int c_), .val (.int p), .val (.int d_), .val (.int sel), .val (.int v6_1), .val (.int m2), .val (.int m4), .val (.int m6), .val (.int m8), .val (.int m10), .val (.int m12), .val (.ref b14), .val (.ref b15), .val (.ref b16), .val (.ref b21), .unset] [] := Own.astore r at_140 rfl rfl
  replace r : A0 l Z n0 D h23 4 11 144 #[.val (.int t), .val (.int l_), .val (.int c_), .val (.int p), .val (.int d_), .val (.int sel), .val (.int v6_1), .val (.int m2), .val (.int m4), .val (.int m6), .val (.int m8), .val (.int m10), .val (.int m12), .val (.ref b14), .val (.ref b15), .val (.ref b16), .val (.ref b21), .unset] [(.int m2)] := Own.iload r at_142 rfl
  obtain ⟨m26, e_m26, r⟩ : ∃ (m26 : Int32), m26 = (if m2 = (0 : Int32) then (0 : Int32) else (if m4 = (0 : Int32) then (0 : Int32) else (if m6 = (0 : Int32) then (0 : Int32) else (1 : Int32)))) ∧ A0 l Z n0 D h23 4 11 162 #[.val (.int t), .val (.int l_), .val (.int c_), .val (.int p), .val (.int d_), .val (.int sel), .val (.int v6_1), .val (.int m2), .val (.int m4), .val (.int m6), .val (.int m8), .val (.int m10), .val (.int m12), .val (.ref b14), .val (.ref b15), .val (.ref b16), .val (.ref b21), .unset] [(.int m26)] := by
    by_cases c27 : m2 = (0 : Int32)
    · skip
      replace r : A0 l Z n0 D h23 4 11 161 #[.val (.int t), .val (.int l_), .val (.int c_), .val (.int p), .val (.int d_), .val (.int sel), .val (.int v6_1), .val (.int m2), .val (.int m4), .val (.int m6), .val (.int m8), .val (.int m10), .val (.int m12), .val (.ref b14), .val (.ref b15), .val (.ref b16), .val (.ref b21), .unset] [] := Own.ifYes r at_144 ((if0 _ _).trans (teq c27).1) (by decide) (by decide)
      replace r : A0 l Z n0 D h23 4 11 162 #[.val (.int t), .val (.int l_), .val (.int c_), .val (.int p), .val (.int d_), .val (.int sel), .val (.int v6_1), .val (.int m2), .val (.int m4), .val (.int m6), .val (.int m8), .val (.int m10), .val (.int m12), .val (.ref b14), .val (.ref b15), .val (.ref b16), .val (.ref b21), .unset] [(.int (0 : Int32))] := Own.iconst r at_161 rfl
      exact ⟨_, by rw [if_pos c27], r⟩
    · skip
      replace r : A0 l Z n0 D h23 4 11 147 #[.val (.int t), .val (.int l_), .val (.int c_), .val (.int p), .val (.int d_), .val (.int sel), .val (.int v6_1), .val (.int m2), .val (.int m4), .val (.int m6), .val (.int m8), .val (.int m10), .val (.int m12), .val (.ref b14), .val (.ref b15), .val (.ref b16), .val (.ref b21), .unset] [] := Own.ifNo r at_144 ((if0 _ _).trans (feq c27).1)
      replace r : A0 l Z n0 D h23 4 11 149 #[.val (.int t), .val (.int l_), .val (.int c_), .val (.int p), .val (.int d_), .val (.int sel), .val (.int v6_1), .val (.int m2), .val (.int m4), .val (.int m6), .val (.int m8), .val (.int m10), .val (.int m12), .val (.ref b14), .val (.ref b15), .val (.ref b16), .val (.ref b21), .unset] [(.int m4)] := Own.iload r at_147 rfl
      by_cases c28 : m4 = (0 : Int32)
      · skip
        replace r : A0 l Z n0 D h23 4 11 161 #[.val (.int t), .val (.int l_), .val (.int c_), .val (.int p), .val (.int d_), .val (.int sel), .val (.int v6_1), .val (.int m2), .val (.int m4), .val (.int m6), .val (.int m8), .val (.int m10), .val (.int m12), .val (.ref b14), .val (.ref b15), .val (.ref b16), .val (.ref b21), .unset] [] := Own.ifYes r at_149 ((if0 _ _).trans (teq c28).1) (by decide) (by decide)
        replace r : A0 l Z n0 D h23 4 11 162 #[.val (.int t), .val (.int l_), .val (.int c_), .val (.int p), .val (.int d_), .val (.int sel), .val (.int v6_1), .val (.int m2), .val (.int m4), .val (.int m6), .val (.int m8), .val (.int m10), .val (.int m12), .val (.ref b14), .val (.ref b15), .val (.ref b16), .val (.ref b21), .unset] [(.int (0 : Int32))] := Own.iconst r at_161 rfl
        exact ⟨_, by rw [if_neg c27, if_pos c28], r⟩
      · skip
        replace r : A0 l Z n0 D h23 4 11 152 #[.val (.int t), .val (.int l_), .val (.int c_), .val (.int p), .val (.int d_), .val (.int sel), .val (.int v6_1), .val (.int m2), .val (.int m4), .val (.int m6), .val (.int m8), .val (.int m10), .val (.int m12), .val (.ref b14), .val (.ref b15), .val (.ref b16), .val (.ref b21), .unset] [] := Own.ifNo r at_149 ((if0 _ _).trans (feq c28).1)
        replace r : A0 l Z n0 D h23 4 11 154 #[.val (.int t), .val (.int l_), .val (.int c_), .val (.int p), .val (.int d_), .val (.int sel), .val (.int v6_1), .val (.int m2), .val (.int m4), .val (.int m6), .val (.int m8), .val (.int m10), .val (.int m12), .val (.ref b14), .val (.ref b15), .val (.ref b16), .val (.ref b21), .unset] [(.int m6)] := Own.iload r at_152 rfl
        by_cases c29 : m6 = (0 : Int32)
        · skip
          replace r : A0 l Z n0 D h23 4 11 161 #[.val (.int t), .val (.int l_), .val (.int c_), .val (.int p), .val (.int d_), .val (.int sel), .val (.int v6_1), .val (.int m2), .val (.int m4), .val (.int m6), .val (.int m8), .val (.int m10), .val (.int m12), .val (.ref b14), .val (.ref b15), .val (.ref b16), .val (.ref b21), .unset] [] := Own.ifYes r at_154 ((if0 _ _).trans (teq c29).1) (by decide) (by decide)
          replace r : A0 l Z n0 D h23 4 11 162 #[.val (.int t), .val (.int l_), .val (.int c_), .val (.int p), .val (.int d_), .val (.int sel), .val (.int v6_1), .val (.int m2), .val (.int m4), .val (.int m6), .val (.int m8), .val (.int m10), .val (.int m12), .val (.ref b14), .val (.ref b15), .val (.ref b16), .val (.ref b21), .unset] [(.int (0 : Int32))] := Own.iconst r at_161 rfl
          exact ⟨_, by rw [if_neg c27, if_neg c28, if_pos c29], r⟩
        · skip
          replace r : A0 l Z n0 D h23 4 11 157 #[.val (.int t), .val (.int l_), .val (.int c_), .val (.int p), .val (.int d_), .val (.int sel), .val (.int v6_1), .val (.int m2), .val (.int m4), .val (.int m6), .val (.int m8), .val (.int m10), .val (.int m12), .val (.ref b14), .val (.ref b15), .val (.ref b16), .val (.ref b21), .unset] [] := Own.ifNo r at_154 ((if0 _ _).trans (feq c29).1)
          replace r : A0 l Z n0 D h23 4 11 158 #[.val (.int t), .val (.int l_), .val (.int c_), .val (.int p), .val (.int d_), .val (.int sel), .val (.int v6_1), .val (.int m2), .val (.int m4), .val (.int m6), .val (.int m8), .val (.int m10), .val (.int m12), .val (.ref b14), .val (.ref b15), .val (.ref b16), .val (.ref b21), .unset] [(.int (1 : Int32))] := Own.iconst r at_157 rfl
          replace r : A0 l Z n0 D h23 4 11 162 #[.val (.int t), .val (.int l_), .val (.int c_), .val (.int p), .val (.int d_), .val (.int sel), .val (.int v6_1), .val (.int m2), .val (.int m4), .val (.int m6), .val (.int m8), .val (.int m10), .val (.int m12), .val (.ref b14), .val (.ref b15), .val (.ref b16), .val (.ref b21), .unset] [(.int (1 : Int32))] := Own.goto r at_158 (by decide) (by decide)
          exact ⟨_, by rw [if_neg c27, if_neg c28, if_neg c29], r⟩
  replace r : A0 l Z n0 D h23 4 11 164 #[.val (.int t), .val (.int l_), .val (.int c_), .val (.int p), .val (.int d_), .val (.int sel), .val (.int v6_1), .val (.int m2), .val (.int m4), .val (.int m6), .val (.int m8), .val (.int m10), .val (.int m12), .val (.ref b14), .val (.ref b15), .val (.ref b16), .val (.ref b21), .val (.int m26)] [] := Own.istore r at_162 rfl
  replace r : A0 l Z n0 D h23 4 11 166 #[.val (.int t), .val (.int l_), .val (.int c_), .val (.int p), .val (.int d_), .val (.int sel), .val (.int v6_1), .val (.int m2), .val (.int m4), .val (.int m6), .val (.int m8), .val (.int m10), .val (.int m12), .val (.ref b14), .val (.ref b15), .val (.ref b16), .val (.ref b21), .val (.int m26)] [(.ref b16)] := Own.aload r at_164 rfl rfl
  replace r : A0 l Z n0 D h23 4 11 168 #[.val (.int t), .val (.int l_), .val (.int c_), .val (.int p), .val (.int d_), .val (.int sel), .val (.int v6_1), .val (.int m2), .val (.int m4), .val (.int m6), .val (.int m8), .val (.int m10), .val (.int m12), .val (.ref b14), .val (.ref b15), .val (.ref b16), .val (.ref b21), .val (.int m26)] [(.ref b21), (.ref b16)] := Own.aload r at_166 rfl rfl
  obtain ⟨rv30, h31, hQ32, r⟩ := Own.callV [(.ref b21)] r at_168 (c4 l Z a0 hw n0 h23 Zs b16 b21 m8 t m10 l_ m12 c_ F_type_b21 F_type_b16 F_level_b21 F_level_b16 F_contextId_b21 F_contextId_b16) X_b16 (hw _ (List.mem_of_getElem? (i := 25) rfl)) (hw _ (List.mem_of_getElem? (i := 26) rfl)) (Own.nfS (hw _ (List.mem_of_getElem? (i := 28) rfl))) (hw _ (List.mem_of_getElem? (i := 28) rfl)) (hw _ (List.mem_of_getElem? (i := 27) rfl)) (hw _ (List.mem_of_getElem? (i := 3) rfl)) (hw _ (List.mem_of_getElem? (i := 29) rfl)) (lenOf pd_0_1 rfl) rfl rfl (W := 0) (Nat.le_of_eq rfl) rfl (by decide) (by decide) (by decide) (by decide) (by decide)
  obtain ⟨rfl, y33, rfl, e_y33⟩ := hQ32
  replace r : A0 l Z n0 D h23 4 11 171 #[.val (.int t), .val (.int l_), .val (.int c_), .val (.int p), .val (.int d_), .val (.int sel), .val (.int v6_1), .val (.int m2), .val (.int m4), .val (.int m6), .val (.int m8), .val (.int m10), .val (.int m12), .val (.ref b14), .val (.ref b15), .val (.ref b16), .val (.ref b21), .val (.int m26)] [(.int y33)] := r
  replace r : A0 l Z n0 D h23 4 11 173 #[.val (.int t), .val (.int l_), .val (.int c_), .val (.int p), .val (.int d_), .val (.int sel), .val (.int v6_1), .val (.int m2), .val (.int m4), .val (.int m6), .val (.int m8), .val (.int m10), .val (.int m12), .val (.ref b14), .val (.ref b15), .val (.ref b16), .val (.ref b21), .val (.int m26)] [(.int m26), (.int y33)] := Own.iload r at_171 rfl
  replace r : A0 l Z n0 D h23 4 11 176 #[.val (.int t), .val (.int l_), .val (.int c_), .val (.int p), .val (.int d_), .val (.int sel), .val (.int v6_1), .val (.int m2), .val (.int m4), .val (.int m6), .val (.int m8), .val (.int m10), .val (.int m12), .val (.ref b14), .val (.ref b15), .val (.ref b16), .val (.ref b21), .val (.int m26)] [] := Own.icmpNo r at_173 (teq (own_ab e_v6_1 e_m2 e_m4 e_m6 e_m8 e_m10 e_m12 e_m26 e_y33)).2
  replace r : A0 l Z n0 D h23 4 11 178 #[.val (.int t), .val (.int l_), .val (.int c_), .val (.int p), .val (.int d_), .val (.int sel), .val (.int v6_1), .val (.int m2), .val (.int m4), .val (.int m6), .val (.int m8), .val (.int m10), .val (.int m12), .val (.ref b14), .val (.ref b15), .val (.ref b16), .val (.ref b21), .val (.int m26)] [(.ref b21)] := Own.aload r at_176 rfl rfl
  replace r : A0 l Z n0 D h23 4 11 180 #[.val (.int t), .val (.int l_), .val (.int c_), .val (.int p), .val (.int d_), .val (.int sel), .val (.int v6_1), .val (.int m2), .val (.int m4), .val (.int m6), .val (.int m8), .val (.int m10), .val (.int m12), .val (.ref b14), .val (.ref b15), .val (.ref b16), .val (.ref b21), .val (.int m26)] [(.ref b16), (.ref b21)] := Own.aload r at_178 rfl rfl
  obtain ⟨rv34, h35, hQ36, r⟩ := Own.callV [(.ref b16)] r at_180 (c4 l Z a0 hw n0 h23 Zs b21 b16 t m8 l_ m10 c_ m12 F_type_b16 F_type_b21 F_level_b16 F_level_b21 F_contextId_b16 F_contextId_b21) X_b21 (hw _ (List.mem_of_getElem? (i := 25) rfl)) (hw _ (List.mem_of_getElem? (i := 26) rfl)) (Own.nfS (hw _ (List.mem_of_getElem? (i := 28) rfl))) (hw _ (List.mem_of_getElem? (i := 28) rfl)) (hw _ (List.mem_of_getElem? (i := 27) rfl)) (hw _ (List.mem_of_getElem? (i := 3) rfl)) (hw _ (List.mem_of_getElem? (i := 29) rfl)) (lenOf pd_0_1 rfl) rfl rfl (W := 0) (Nat.le_of_eq rfl) rfl (by decide) (by decide) (by decide) (by decide) (by decide)
  obtain ⟨rfl, y37, rfl, e_y37⟩ := hQ36
  replace r : A0 l Z n0 D h23 4 11 183 #[.val (.int t), .val (.int l_), .val (.int c_), .val (.int p), .val (.int d_), .val (.int sel), .val (.int v6_1), .val (.int m2), .val (.int m4), .val (.int m6), .val (.int m8), .val (.int m10), .val (.int m12), .val (.ref b14), .val (.ref b15), .val (.ref b16), .val (.ref b21), .val (.int m26)] [(.int y37)] := r
  replace r : A0 l Z n0 D h23 4 11 185 #[.val (.int t), .val (.int l_), .val (.int c_), .val (.int p), .val (.int d_), .val (.int sel), .val (.int v6_1), .val (.int m2), .val (.int m4), .val (.int m6), .val (.int m8), .val (.int m10), .val (.int m12), .val (.ref b14), .val (.ref b15), .val (.ref b16), .val (.ref b21), .val (.int m26)] [(.int m26), (.int y37)] := Own.iload r at_183 rfl
  replace r : A0 l Z n0 D h23 4 11 188 #[.val (.int t), .val (.int l_), .val (.int c_), .val (.int p), .val (.int d_), .val (.int sel), .val (.int v6_1), .val (.int m2), .val (.int m4), .val (.int m6), .val (.int m8), .val (.int m10), .val (.int m12), .val (.ref b14), .val (.ref b15), .val (.ref b16), .val (.ref b21), .val (.int m26)] [] := Own.icmpNo r at_185 (teq (own_ba e_v6_1 e_m2 e_m4 e_m6 e_m8 e_m10 e_m12 e_m26 e_y37)).2
  replace r : A0 l Z n0 D h23 4 11 190 #[.val (.int t), .val (.int l_), .val (.int c_), .val (.int p), .val (.int d_), .val (.int sel), .val (.int v6_1), .val (.int m2), .val (.int m4), .val (.int m6), .val (.int m8), .val (.int m10), .val (.int m12), .val (.ref b14), .val (.ref b15), .val (.ref b16), .val (.ref b21), .val (.int m26)] [(.ref b16)] := Own.aload r at_188 rfl rfl
  replace r : A0 l Z n0 D h23 4 11 192 #[.val (.int t), .val (.int l_), .val (.int c_), .val (.int p), .val (.int d_), .val (.int sel), .val (.int v6_1), .val (.int m2), .val (.int m4), .val (.int m6), .val (.int m8), .val (.int m10), .val (.int m12), .val (.ref b14), .val (.ref b15), .val (.ref b16), .val (.ref b21), .val (.int m26)] [(.ref b16), (.ref b16)] := Own.aload r at_190 rfl rfl
  obtain ⟨rv38, h39, hQ40, r⟩ := Own.callV [(.ref b16)] r at_192 (c4 l Z a0 hw n0 h23 Zs b16 b16 t t l_ l_ c_ c_ F_type_b16 F_type_b16 F_level_b16 F_level_b16 F_contextId_b16 F_contextId_b16) X_b16 (hw _ (List.mem_of_getElem? (i := 25) rfl)) (hw _ (List.mem_of_getElem? (i := 26) rfl)) (Own.nfS (hw _ (List.mem_of_getElem? (i := 28) rfl))) (hw _ (List.mem_of_getElem? (i := 28) rfl)) (hw _ (List.mem_of_getElem? (i := 27) rfl)) (hw _ (List.mem_of_getElem? (i := 3) rfl)) (hw _ (List.mem_of_getElem? (i := 29) rfl)) (lenOf pd_0_1 rfl) rfl rfl (W := 0) (Nat.le_of_eq rfl) rfl (by decide) (by decide) (by decide) (by decide) (by decide)
  obtain ⟨rfl, y41, rfl, e_y41⟩ := hQ40
  replace r : A0 l Z n0 D h23 4 11 195 #[.val (.int t), .val (.int l_), .val (.int c_), .val (.int p), .val (.int d_), .val (.int sel), .val (.int v6_1), .val (.int m2), .val (.int m4), .val (.int m6), .val (.int m8), .val (.int m10), .val (.int m12), .val (.ref b14), .val (.ref b15), .val (.ref b16), .val (.ref b21), .val (.int m26)] [(.int y41)] := r
  replace r : A0 l Z n0 D h23 4 11 198 #[.val (.int t), .val (.int l_), .val (.int c_), .val (.int p), .val (.int d_), .val (.int sel), .val (.int v6_1), .val (.int m2), .val (.int m4), .val (.int m6), .val (.int m8), .val (.int m10), .val (.int m12), .val (.ref b14), .val (.ref b15), .val (.ref b16), .val (.ref b21), .val (.int m26)] [] := Own.ifNo r at_195 ((if0 _ _).trans (feq (own_self e_y41)).1)
  replace r : A0 l Z n0 D h23 4 11 199 #[.val (.int t), .val (.int l_), .val (.int c_), .val (.int p), .val (.int d_), .val (.int sel), .val (.int v6_1), .val (.int m2), .val (.int m4), .val (.int m6), .val (.int m8), .val (.int m10), .val (.int m12), .val (.ref b14), .val (.ref b15), .val (.ref b16), .val (.ref b21), .val (.int m26)] [(.int (1 : Int32))] := Own.iconst r at_198 rfl
  replace r : A0 l Z n0 D h23 4 11 203 #[.val (.int t), .val (.int l_), .val (.int c_), .val (.int p), .val (.int d_), .val (.int sel), .val (.int v6_1), .val (.int m2), .val (.int m4), .val (.int m6), .val (.int m8), .val (.int m10), .val (.int m12), .val (.ref b14), .val (.ref b15), .val (.ref b16), .val (.ref b21), .val (.int m26)] [(.int (1 : Int32))] := Own.goto r at_199 (by decide) (by decide)
  exact ⟨_, _, (Own.Rch.retZ (y := x) (bytes := code) (mx := maxLocals) r at_203 (by decide)).more (by decide) (by decide), rfl⟩
set_option maxRecDepth 65536 in
set_option maxHeartbeats 40000000 in
theorem comes_1 {Post : Tables → Env → Array Value → State → Outcome → State → Prop} (hpost : ∀ tb e args s v u, (limb_1_1.after args s (.returned v) u = true ∧ limb_1_2.after args s (.returned v) u = true ∧ True) → FrameEnd s (.returned v) u (Jvm.fieldLocs frame_1_writes args s ++ Jvm.arrayLocs frame_1_arrays args s ++ Jvm.staticLocs frame_1_statics s) 16 128 → Post tb e args s (.returned v) u) :
    ArmFor flags0 classFile x code maxLocals ret World_1 tables_1 room_1 Calls_1 rest_1 Pre_1 Post := by
  intro l hfl _ _ p e ha hc hk s m args below hf hA hF happ hP
  obtain ⟨hcalls, hrest, hpre⟩ := hP
  obtain ⟨-, -, -, hnamed, -, -, -, hat⟩ := (Spec.applies_iff hf).mp happ
  obtain ⟨hg, hn⟩ := and_e (Cond.before_iff.mp (show (Jvm.Cond.and given_1 narrow_1).before args s = true from hpre))
  obtain ⟨g1, g2⟩ := and_e hg
  obtain ⟨g3, g4⟩ := and_e g2
  obtain ⟨g5, g6⟩ := and_e g4
  obtain ⟨g7, g8⟩ := and_e g6
  obtain ⟨g9, g10⟩ := and_e g8
  obtain ⟨g11, g12⟩ := and_e g10
  obtain ⟨w0, w1, w2, w3, w4, w5, rfl⟩ : ∃ w0 w1 w2 w3 w4 w5 : Value, args = #[w0, w1, w2, w3, w4, w5] := by
    have hs : args.size = 6 := by simpa [Cond.value, given_1] using g1
    obtain ⟨L⟩ := args
    match L, hs with
    | [w0, w1, w2, w3, w4, w5], _ => exact ⟨w0, w1, w2, w3, w4, w5, rfl⟩
  have hw := fun d (hd : d ∈ tables_1) => atoms_spec (ws := Jvm.Cond.code x code maxLocals ret :: tables_1) hat d (List.mem_cons_of_mem _ hd)
  have hfit : Fit s := fun {y c} hc i hi => by
    obtain ⟨ha, rfl⟩ := Array.getElem?_eq_some_iff.mp hc
    have q := List.all_eq_true.mp ((Array.all_eq_true_iff_forall_mem.mp hF) _ (Array.getElem_mem ha)) i (List.mem_range.mpr hi)
    simpa [Array.getElem?_eq_getElem hi] using q
  obtain ⟨i0, ei0⟩ := is_v g3
  obtain rfl : w0 = (.int i0) := Option.some.inj ei0
  obtain ⟨i1, ei1⟩ := is_v g5
  obtain rfl : w1 = (.int i1) := Option.some.inj ei1
  obtain ⟨i2, ei2⟩ := is_v g7
  obtain rfl : w2 = (.int i2) := Option.some.inj ei2
  obtain ⟨i3, ei3⟩ := is_v g9
  obtain rfl : w3 = (.int i3) := Option.some.inj ei3
  obtain ⟨i4, ei4⟩ := is_v g11
  obtain rfl : w4 = (.int i4) := Option.some.inj ei4
  obtain ⟨i5, ei5⟩ := is_v g12
  obtain rfl : w5 = (.int i5) := Option.some.inj ei5
  obtain ⟨n, o, h1, h2, h3, _, L, rfl, ⟨N, rfl⟩, hq⟩ := (c0 l s _ hw s.heap.size s.heap (Nat.le_refl _) i0 i1 i2 i3 i4 i5) tables_1 p e ha hc hk s m _ below hf ((Spec.applies_iff_loose hf).mp happ).1 ⟨rfl, State.Warmed39.refl s, rfl⟩ trivial
  refine ⟨n, _, h1, h2, h3, hpost _ _ _ _ _ _ ⟨Cond.after_iff.mpr rfl, Cond.after_iff.mpr (eq_i res_at (Term.int_eval (1)) rfl), trivial⟩ ⟨hq.1, hq.2.1, (hq.2.2.sift fun y hy => Or.inr (N y hy)).mono (by decide) (by decide)⟩⟩
theorem main_1_1 : Claimed_1_1 := comes_1 fun _ _ _ _ _ _ h hF => ⟨h.1, hF⟩
theorem main_1_2 : Claimed_1_2 := comes_1 fun _ _ _ _ _ _ h hF => ⟨h.2.1, hF⟩
end Jvm.Pilot.@@N@@
namespace Jvm.Pilot.@@N@@
open Jvm Jvm.ClassFile Sem Op Lib Jvm.Free Jvm.Stand Jvm.Pilot.@@N@@.Jvm.D
/-! MADE BY PROGRAM (witnessworld.py) out of the Statement's table words and the real class files: 10 classes; the members and pool entries that the words name. The judged class is class 1, her method 1. -/
namespace start1
open Jvm.ClassFile
def u (s : String) : CpInfo := .utf8 (stringToUtf16 s)
/-- a pool by its gaps: so many unusable entries, then the entry; so many at the end -/
def gap : Nat → List CpInfo → List CpInfo
  | 0, r => r
  | n + 1, r => .unusable :: gap n r
def poolList (es : List (Nat × CpInfo)) (last : Nat) : List CpInfo := es.foldr (fun e r => gap e.1 (e.2 :: r)) (gap last [])
def pool (es : List (Nat × CpInfo)) (last : Nat) : Array CpInfo := ⟨poolList es last⟩
def fileOf (pool : Array CpInfo) (this : Nat) (attrs : Array Attribute := #[]) (ms : Array MethodInfo := #[]) (fl : Nat := 33) (sup : Nat := 0) (ifs : Array Nat := #[]) (fds : Array FieldInfo := #[]) : ClassFile where
  minorVersion := 0
  majorVersion := 65
  constantPool := pool
  accessFlags := fl
  thisClass := this
  superClass := sup
  interfaces := ifs
  fields := fds
  methods := ms
  attributes := attrs
def plain (name : String) (sup : Option ClassId) : Class where
  name := name
  kind := .ordinary
  loader := none
  accessFlags := 33
  super := sup
  interfaces := #[]
  cf := none
  fields := #[]
  methods := #[]
  instanceTypes := #[]
  staticTypes := #[]
  resolved := #[]
  callSites := []
  init := .initialized
  statics := none
  mirror := none

def pool0 : Array CpInfo := pool [(5, u "<init>"), (0, u "()V"), (1, .class_ 10), (1, u "java/lang/Object")] 113

def k0c0 : Code := { maxStack := 0, maxLocals := 1, code := object_method_1_code, exceptionTable := #[], attributes := #[] }
def k0m0 : Method := { name := "<init>", desc := "()V", sig := { parameters := [], returnType := none }, accessFlags := 1, code := some k0c0 }
/-- java/lang/Object -/
def k0 : Class := { plain "java/lang/Object" none with
  accessFlags := 33
  interfaces := #[]
  cf := some (fileOf pool0 8 #[] #[{ accessFlags := 1, nameIndex := 5, descriptorIndex := 6, attributes := #[] }] 33 0 #[] #[])
  fields := #[]
  methods := #[k0m0]
  instanceTypes := #[]
  staticTypes := #[]
  resolved := Array.replicate 124 none
  statics := none }

def pool1 : Array CpInfo := pool [(2, .class_ 4), (1, u "java/lang/Object"), (0, u "<init>"), (0, u "()V"), (0, .class_ 8), (0, u "com/example/syncline/syncline/protocol/rpc/Pdu$Trailer"), (0, .methodref 7 10), (0, .nameAndType 5 11), (0, u "(IIII[B)V"), (0, .methodref 7 13), (0, .nameAndType 14 15), (0, u "names"), (0, u "(Lcom/example/syncline/syncline/protocol/rpc/Pdu$Trailer;)Z"), (0, .class_ 17), (0, u "com/example/syncline/syncline/protocol/rpc/TrailerNamesPinLaw"), (2, u "law"), (0, u "(IIIIII)Z")] 9

def k1m0 : Method := { name := "<init>", desc := "()V", sig := { parameters := [], returnType := none }, accessFlags := 1, code := none }
def k1c1 : Code := { maxStack := 7, maxLocals := 18, code := code, exceptionTable := #[], attributes := #[] }
def k1m1 : Method := { name := "law", desc := "(IIIIII)Z", sig := { parameters := [.int, .int, .int, .int, .int, .int], returnType := some .boolean }, accessFlags := 9, code := some k1c1 }
/-- com/example/syncline/syncline/protocol/rpc/TrailerNamesPinLaw -/
def k1 : Class := { plain "com/example/syncline/syncline/protocol/rpc/TrailerNamesPinLaw" (some 0) with
  accessFlags := 49
  interfaces := #[]
  cf := some (fileOf pool1 16 #[] #[{ accessFlags := 1, nameIndex := 5, descriptorIndex := 6, attributes := #[] }, { accessFlags := 9, nameIndex := 20, descriptorIndex := 21, attributes := #[] }] 49 2 #[] #[])
  fields := #[]
  methods := #[k1m0, k1m1]
  instanceTypes := #[]
  staticTypes := #[]
  resolved := Array.replicate 31 none
  statics := none }

def pool2 : Array CpInfo := pool [(1, .methodref 2 3), (0, .class_ 4), (0, .nameAndType 5 6), (0, u "java/lang/Object"), (0, u "<init>"), (0, u "()V"), (0, .class_ 8), (0, u "java/lang/Record")] 13

def k2c0 : Code := { maxStack := 1, maxLocals := 1, code := jdk_30_method_1_code, exceptionTable := #[], attributes := #[] }
def k2m0 : Method := { name := "<init>", desc := "()V", sig := { parameters := [], returnType := none }, accessFlags := 4, code := some k2c0 }
/-- java/lang/Record -/
def k2 : Class := { plain "java/lang/Record" (some 0) with
  accessFlags := 1057
  interfaces := #[]
  cf := some (fileOf pool2 7 #[] #[{ accessFlags := 4, nameIndex := 5, descriptorIndex := 6, attributes := #[] }] 1057 2 #[] #[])
  fields := #[]
  methods := #[k2m0]
  instanceTypes := #[]
  staticTypes := #[]
  resolved := Array.replicate 22 none
  statics := none }

def pool3 : Array CpInfo := pool [(1, .methodref 2 3), (0, .class_ 4), (0, .nameAndType 5 6), (0, u "java/lang/Record"), (0, u "<init>"), (0, u "()V"), (0, .fieldref 8 9), (0, .class_ 10), (0, .nameAndType 11 12), (0, u "com/example/syncline/syncline/protocol/rpc/Pdu$Trailer"), (0, u "type"), (0, u "I"), (0, .fieldref 8 14), (0, .nameAndType 15 12), (0, u "level"), (0, .fieldref 8 17), (0, .nameAndType 18 12), (0, u "padding"), (0, .fieldref 8 20), (0, .nameAndType 21 12), (0, u "contextId"), (0, .fieldref 8 23), (0, .nameAndType 24 25), (0, u "token"), (0, u "[B"), (12, u "SIZE"), (2, u "(IIII[B)V"), (3, u "names"), (0, u "(Lcom/example/syncline/syncline/protocol/rpc/Pdu$Trailer;)Z"), (8, .class_ 56), (0, u "com/example/syncline/syncline/protocol/rpc/Pdu")] 23

def k3c0 : Code := { maxStack := 2, maxLocals := 6, code := prog_203_method_1_code, exceptionTable := #[], attributes := #[] }
def k3m0 : Method := { name := "<init>", desc := "(IIII[B)V", sig := { parameters := [.int, .int, .int, .int, (.array .byte)], returnType := none }, accessFlags := 0, code := some k3c0 }
def k3c1 : Code := { maxStack := 2, maxLocals := 2, code := prog_203_method_2_code, exceptionTable := #[], attributes := #[] }
def k3m1 : Method := { name := "names", desc := "(Lcom/example/syncline/syncline/protocol/rpc/Pdu$Trailer;)Z", sig := { parameters := [(.object "com/example/syncline/syncline/protocol/rpc/Pdu$Trailer")], returnType := some .boolean }, accessFlags := 0, code := some k3c1 }
/-- com/example/syncline/syncline/protocol/rpc/Pdu$Trailer -/
def k3 : Class := { plain "com/example/syncline/syncline/protocol/rpc/Pdu$Trailer" (some 2) with
  accessFlags := 48
  interfaces := #[]
  cf := some (fileOf pool3 8 #[.nestHost 55] #[{ accessFlags := 0, nameIndex := 5, descriptorIndex := 41, attributes := #[] }, { accessFlags := 0, nameIndex := 45, descriptorIndex := 46, attributes := #[] }] 48 2 #[] #[{ accessFlags := 18, nameIndex := 11, descriptorIndex := 12, attributes := #[] }, { accessFlags := 18, nameIndex := 15, descriptorIndex := 12, attributes := #[] }, { accessFlags := 18, nameIndex := 18, descriptorIndex := 12, attributes := #[] }, { accessFlags := 18, nameIndex := 21, descriptorIndex := 12, attributes := #[] }, { accessFlags := 18, nameIndex := 24, descriptorIndex := 25, attributes := #[] }, { accessFlags := 24, nameIndex := 38, descriptorIndex := 12, attributes := #[] }])
  fields := #[{ name := "type", type := .int, accessFlags := 18, slot := 0, constantValue := 0 }, { name := "level", type := .int, accessFlags := 18, slot := 1, constantValue := 0 }, { name := "padding", type := .int, accessFlags := 18, slot := 2, constantValue := 0 }, { name := "contextId", type := .int, accessFlags := 18, slot := 3, constantValue := 0 }, { name := "token", type := (.array .byte), accessFlags := 18, slot := 4, constantValue := 0 }, { name := "SIZE", type := .int, accessFlags := 24, slot := 0, constantValue := 0 }]
  methods := #[k3m0, k3m1]
  instanceTypes := #[.int, .int, .int, .int, (.array .byte)]
  staticTypes := #[.int]
  resolved := Array.replicate 80 none
  statics := none }

def pool4 : Array CpInfo := pool [(1, u "java/lang/Cloneable"), (0, .class_ 1), (0, u "java/lang/Object"), (0, .class_ 3)] 3

/-- java/lang/Cloneable -/
def k4 : Class := { plain "java/lang/Cloneable" (some 0) with
  accessFlags := 1537
  interfaces := #[]
  cf := some (fileOf pool4 2 #[] #[] 1537 4 #[] #[])
  fields := #[]
  methods := #[]
  instanceTypes := #[]
  staticTypes := #[]
  resolved := Array.replicate 8 none
  statics := none }

def pool5 : Array CpInfo := pool [(1, u "java/io/Serializable"), (0, .class_ 1), (0, u "java/lang/Object"), (0, .class_ 3)] 3

/-- java/io/Serializable -/
def k5 : Class := { plain "java/io/Serializable" (some 0) with
  accessFlags := 1537
  interfaces := #[]
  cf := some (fileOf pool5 2 #[] #[] 1537 4 #[] #[])
  fields := #[]
  methods := #[]
  instanceTypes := #[]
  staticTypes := #[]
  resolved := Array.replicate 8 none
  statics := none }

/-- the primitive byte -/
def k6 : Class := { plain "byte" none with kind := .primitive 'B', accessFlags := 0x411 }
/-- [B -/
def k7 : Class := { plain "[B" (some 0) with kind := .array 6 .byte, interfaces := #[4, 5], accessFlags := 1041 }

/-- the primitive int -/
def k8 : Class := { plain "int" none with kind := .primitive 'I', accessFlags := 0x411 }
/-- [I -/
def k9 : Class := { plain "[I" (some 0) with kind := .array 8 .int, interfaces := #[4, 5], accessFlags := 1041 }

def heap : Heap := #[]
def classes : Array Class := #[k0, k1, k2, k3, k4, k5, k6, k7, k8, k9]
def interned : List (Array UInt16 × Addr) := []
def slotsUsed : Nat := 0
def theMethod : MethodId := ⟨1, 1⟩
def args0 : Array Value := #[.int 1, .int 2, .int 3, .int 4, .int 5, .int 7]
def aboutOver (below : List Frame) : State where
  vm := { classes := classes, interned := interned.toArray }
  heap := heap
  slotsUsed := slotsUsed
  threads := #[{ frames := .invoking theMethod args0 :: below }]
def below0 : List Frame := [.native { method := ⟨0, 0⟩, args := #[] }]
def about1 : State := aboutOver below0
def p0 : Program := .bare "" "" ""
def e0 : Env := launch0.env 0 0 0
theorem w_frames : about1.frames = Frame.invoking theMethod args0 :: below0 := rfl
set_option maxRecDepth 65536 in
theorem w_args : argsFit about1.vm theMethod args0 = true := by decide +kernel
set_option maxRecDepth 65536 in
theorem w_heap : heapFits about1 = true := by decide +kernel
set_option maxRecDepth 65536 in
theorem w_runnable : about1.curStatus? = some .runnable := by decide +kernel
set_option maxRecDepth 65536 in
theorem w_alone : about1.alone = true := by decide +kernel
set_option maxRecDepth 65536 in
theorem w_named : about1.methodNamed? x = some theMethod := by decide +kernel
set_option maxRecDepth 65536 in
theorem w_hears : about1.hears theMethod below0 = true := by decide +kernel
set_option maxRecDepth 65536 in
theorem w_ripe : about1.ripe theMethod args0 below0 = true := by decide +kernel
theorem w_running : about1.status = .running := rfl
set_option maxRecDepth 65536 in
theorem w_room : about1.hasRoom e0.platform room_1 = true :=
  launch0.hasRoom_least _ room_1 (by decide +kernel) (by decide +kernel) (by decide +kernel) (by decide +kernel) (by decide +kernel) (by decide +kernel)
theorem allAtoms_all (ts : List Jvm.Cond) (a : Array Jvm.Value) (st : Jvm.State) : (allAtoms ts).before a st = ts.all (fun c => c.before a st) := by
  induction ts with
  | nil => rfl
  | cons c t ih =>
    show (Jvm.Cond.and c (allAtoms t)).before a st = _
    rw [Jvm.Cond.before_and, ih, List.all_cons]
def words1 : List Jvm.Cond := Jvm.Cond.code x code maxLocals ret :: tables_1
/-- a 'code' word, met by the world's own term for the bytes: nothing is compared byte by byte -/
theorem code_word {y : MethodName} {bytes : ByteArray} {mx : Nat} {rt : Option FieldType} {a : Array Value} {s : State} {m : MethodId} {meth : Method} {c : Code} (h1 : s.methodNamed? y = some m) (h2 : s.vm.method? m = some meth) (h3 : meth.code = some c) (h4 : c.code = bytes)
    (h5 : (c.maxLocals == mx && c.exceptionTable.isEmpty && decide (c.maxStack ≤ mostOperands) && decide (meth.sig.returnType = rt) && !meth.locks && decide (parseMethodDescriptor y.desc = some meth.sig)) = true) : (Jvm.Cond.code y bytes mx rt).before a s = true := by
  simp only [Bool.and_eq_true, beq_iff_eq, Bool.not_eq_true', decide_eq_true_eq] at h5
  obtain ⟨⟨⟨⟨⟨g1, g2⟩, g3⟩, g4⟩, g5⟩, g6⟩ := h5
  simp [Cond.before, Cond.holds, Cond.value, h1, h2, h3, h4, g1, g2, g3, g4, g5, g6]
def isCode : Jvm.Cond → Bool
  | .code _ _ _ _ => true
  | _ => false
theorem all_split {L : List Jvm.Cond} {P : Jvm.Cond → Bool} (h1 : L.all (fun c => isCode c || P c) = true) (h2 : ∀ c ∈ L.filter isCode, P c = true) : L.all P = true := by
  refine List.all_eq_true.mpr fun c hc => ?_
  have h := List.all_eq_true.mp h1 c hc
  rcases Bool.eq_false_or_eq_true (isCode c) with hi | hi
  · exact h2 c (List.mem_filter.mpr ⟨hc, hi⟩)
  · simpa [hi] using h
set_option maxRecDepth 65536 in
theorem w_c0 : (Jvm.Cond.code x code maxLocals ret).before args0 about1 = true := code_word (m := ⟨1, 1⟩) (meth := k1m1) (c := k1c1) (by decide +kernel) rfl rfl rfl (by decide +kernel)
set_option maxRecDepth 65536 in
theorem w_c1 : (Jvm.Cond.code ({ cls := "com/example/syncline/syncline/protocol/rpc/Pdu$Trailer", name := "<init>", desc := "(IIII[B)V" } : Jvm.MethodName) prog_203_method_1_code (6 : Nat) (Option.none : Option Jvm.ClassFile.FieldType)).before args0 about1 = true := code_word (m := ⟨3, 0⟩) (meth := k3m0) (c := k3c0) (by decide +kernel) rfl rfl rfl (by decide +kernel)
set_option maxRecDepth 65536 in
theorem w_c2 : (Jvm.Cond.code ({ cls := "java/lang/Record", name := "<init>", desc := "()V" } : Jvm.MethodName) jdk_30_method_1_code (1 : Nat) (Option.none : Option Jvm.ClassFile.FieldType)).before args0 about1 = true := code_word (m := ⟨2, 0⟩) (meth := k2m0) (c := k2c0) (by decide +kernel) rfl rfl rfl (by decide +kernel)
set_option maxRecDepth 65536 in
theorem w_c3 : (Jvm.Cond.code ({ cls := "java/lang/Object", name := "<init>", desc := "()V" } : Jvm.MethodName) object_method_1_code (1 : Nat) (Option.none : Option Jvm.ClassFile.FieldType)).before args0 about1 = true := code_word (m := ⟨0, 0⟩) (meth := k0m0) (c := k0c0) (by decide +kernel) rfl rfl rfl (by decide +kernel)
set_option maxRecDepth 65536 in
theorem w_c4 : (Jvm.Cond.code ({ cls := "com/example/syncline/syncline/protocol/rpc/Pdu$Trailer", name := "names", desc := "(Lcom/example/syncline/syncline/protocol/rpc/Pdu$Trailer;)Z" } : Jvm.MethodName) prog_203_method_2_code (2 : Nat) (Option.some Jvm.ClassFile.FieldType.boolean)).before args0 about1 = true := code_word (m := ⟨3, 1⟩) (meth := k3m1) (c := k3c1) (by decide +kernel) rfl rfl rfl (by decide +kernel)
def codes1 : List Jvm.Cond := [Jvm.Cond.code x code maxLocals ret, Jvm.Cond.code ({ cls := "com/example/syncline/syncline/protocol/rpc/Pdu$Trailer", name := "<init>", desc := "(IIII[B)V" } : Jvm.MethodName) prog_203_method_1_code (6 : Nat) (Option.none : Option Jvm.ClassFile.FieldType), Jvm.Cond.code ({ cls := "java/lang/Record", name := "<init>", desc := "()V" } : Jvm.MethodName) jdk_30_method_1_code (1 : Nat) (Option.none : Option Jvm.ClassFile.FieldType), Jvm.Cond.code ({ cls := "java/lang/Object", name := "<init>", desc := "()V" } : Jvm.MethodName) object_method_1_code (1 : Nat) (Option.none : Option Jvm.ClassFile.FieldType), Jvm.Cond.code ({ cls := "com/example/syncline/syncline/protocol/rpc/Pdu$Trailer", name := "names", desc := "(Lcom/example/syncline/syncline/protocol/rpc/Pdu$Trailer;)Z" } : Jvm.MethodName) prog_203_method_2_code (2 : Nat) (Option.some Jvm.ClassFile.FieldType.boolean)]
set_option maxRecDepth 65536 in
theorem codes_eq : words1.filter isCode = codes1 := rfl
theorem w_codes : ∀ c ∈ words1.filter isCode, c.before args0 about1 = true := by
  rw [codes_eq]
  intro c hc
  simp only [codes1, List.mem_cons, List.not_mem_nil, or_false] at hc
  rcases hc with rfl | rfl | rfl | rfl | rfl
  · exact w_c0
  · exact w_c1
  · exact w_c2
  · exact w_c3
  · exact w_c4
set_option maxRecDepth 65536 in
theorem w_t1 : (words1.take 24).all (fun c => isCode c || c.before args0 about1) = true := by decide +kernel
set_option maxRecDepth 65536 in
theorem w_t2 : (words1.drop 24).all (fun c => isCode c || c.before args0 about1) = true := by decide +kernel
theorem w_tables : (allAtoms (Jvm.Cond.code x code maxLocals ret :: tables_1)).before args0 about1 = true := by
  rw [allAtoms_all]
  show words1.all (fun c => c.before args0 about1) = true
  refine all_split ?_ w_codes
  rw [← List.take_append_drop 24 words1, List.all_append, w_t1, w_t2]
  rfl
set_option maxRecDepth 65536 in
theorem w_case : (Jvm.Cond.and given_1 narrow_1).before args0 about1 = true := by decide +kernel
theorem w_applies : (headSpec (Jvm.Cond.code x code maxLocals ret :: tables_1) room_1).applies x e0.platform about1 = true :=
  (Spec.applies_iff w_frames).mpr ⟨w_running, w_runnable, w_alone, w_named, w_hears, w_ripe, w_room, w_tables⟩
theorem atStart : AtStart classFile x code maxLocals ret World_1 tables_1 room_1 Calls_1 rest_1 Pre_1 launch0 p0 e0 about1 theMethod args0 below0 :=
  ⟨lists_1, trivial, launch0.admits_env _ _ _, launch0.least_env, fairChoices_fair.cas, fairChoices_fair.clock, w_frames, w_args, w_heap, w_applies, trivial, trivial, w_case⟩
end start1
theorem witness_1 : WitnessClaimed_1 := ⟨start1.p0, start1.e0, start1.about1, start1.theMethod, start1.args0, start1.below0, start1.atStart⟩
end Jvm.Pilot.@@N@@
