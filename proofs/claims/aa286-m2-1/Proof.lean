import JvmDerived
import JvmDerived.Pilot.@@N@@Statement
import JvmDerived.Pilot.@@N@@Code
set_option linter.unusedVariables false
set_option linter.unusedSimpArgs false
namespace Jvm.Own
open Sem ClassFile Op Lib Jvm.Stand Jvm.Free Jvm.LawKit Jvm.RoadKit
/-- what stays put in the walk of one body: program, environment, the state at the call, the method, its arguments, the frames below, its record and code, the state behind the entry, the entry frame -/
abbrev Dyn : Type := Program × Env × State × MethodId × Array Value × List Frame × Method × Code × State × JFrame
def Base (Z : State) (y : MethodName) (bytes : ByteArray) (mx : Nat) (rt : Option FieldType) (D : Dyn) : Prop :=
  match D with
  | (p, _, s, m, _, _, meth, c, _, _) => p.tables.exec = Jvm.exec ∧ c.code = bytes ∧ c.maxLocals = mx ∧ s.vm.findClass y.cls = some m.cls ∧ Z.Warmed39 s.vm ∧ meth.sig.returnType = rt ∧ meth.locks = false ∧ meth.name = y.name
/-- the walk has come to pc with these locals, this stack, this heap; k cells and n slots have been made -/
def Rch (l : Launch) (Z : State) (n0 : Nat) (R : Room) (y : MethodName) (bytes : ByteArray) (mx : Nat) (rt : Option FieldType) (D : Dyn) (h : Heap) (k n pc : Nat) (Ls : Array Slot) (st : List Value) : Prop :=
  Base Z y bytes mx rt D ∧
  match D with
  | (p, e, s, m, args, below, meth, c, s₁, g0) => ∃ (T : State) (locs : List Loc), Stand p l e R s m args below meth c T locs k n ∧ T.heap = h ∧ Fr n0 locs ∧ Steps p.tables e below (s₁.setTop g0) (T.setTop (mkF m pc Ls st))
/-- the body has returned v and left the heap h -/
def Don (l : Launch) (Z : State) (n0 : Nat) (R : Room) (D : Dyn) (h : Heap) (k n : Nat) (v : Option Value) : Prop :=
  match D with
  | (p, e, s, m, args, below, meth, c, s₁, g0) => ∃ (T : State) (locs : List Loc) (fs : List Frame), Stand p l e R s m args below meth c T locs k n ∧ T.heap = h ∧ Fr n0 locs ∧ Steps p.tables e below (s₁.setTop g0) (T.setFrames fs) ∧ (T.setFrames fs).heap = h ∧
      (T.setFrames fs).status = .running ∧ Ended (T.setFrames fs) below (.returned v) ∧ s.WarmedH (T.setFrames fs).vm ∧ s.sameButNew ({ T.setFrames fs with vm := s.vm } : State) locs k n
/-- a callee's contract at the heap h and the arguments as' -/
def Con (l : Launch) (Z : State) (n0 : Nat) (y : MethodName) (bytes : ByteArray) (mx : Nat) (rt : Option FieldType) (rm : Room) (as' : Array Value) (h : Heap) (Q : Option Value → Heap → Prop) : Prop :=
  ∀ ws : List Jvm.Cond, MetFree l y (head1 (Jvm.Cond.code y bytes mx rt :: ws) rm) (fun a U => a = as' ∧ Z.Warmed39 U.vm ∧ U.heap = h) (fun _ _ _ _ _ => True) (fun _ U o U' => ∃ v L, o = .returned v ∧ (Fr n0 L ∧ Q v U'.heap) ∧ FrameEnd U o U' L rm.cells rm.slots)
def ishlW (x z : Int32) : Int32 := x <<< (z &&& 31)
def ishrW (x z : Int32) : Int32 := x >>> (z &&& 31)
def iushrW (x z : Int32) : Int32 := (x.toUInt32 >>> (z &&& 31).toUInt32).toInt32
def lshlW (x : Int64) (z : Int32) : Int64 := x <<< (z &&& 0x3f).toInt64
def lshrW (x : Int64) (z : Int32) : Int64 := x >>> (z &&& 0x3f).toInt64
def lushrW (x : Int64) (z : Int32) : Int64 := (x.toUInt64 >>> (z &&& 0x3f).toInt64.toUInt64).toInt64
def lremW (x z : Int64) : Int64 := x - (x / z) * z
def i2bW (x : Int32) : Int32 := x.toInt8.toInt32
def i2cW (x : Int32) : Int32 := x.toUInt32.toUInt16.toUInt32.toInt32
def i2sW (x : Int32) : Int32 := x.toInt16.toInt32
/-- an element of an int list, by a Java index -/
def ga (L : List Int32) (j : Int32) : Int32 := L.getD j.toNatClampNeg 0
section Kit
variable {l : Launch} {Z : State} {a0 : Array Value} {n0 : Nat} {R : Room} {y : MethodName} {bytes : ByteArray} {mx : Nat} {rt : Option FieldType} {D : Dyn} {h h' : Heap} {k n pc : Nat} {Ls : Array Slot} {st : List Value}
theorem Con.enter {rm : Room} {as' : Array Value} {Q : Option Value → Heap → Prop} (hp : plainFor y = true) (ef : ∀ m, entryFrame m as' mx = mkF m 0 Ls [])
    (f : ∀ D : Dyn, Rch l Z n0 rm y bytes mx rt D h 0 0 0 Ls [] → ∃ v h', Don l Z n0 rm D h' rm.cells rm.slots v ∧ Q v h') : Con l Z n0 y bytes mx rt rm as' h Q := by
  intro ws
  refine MetFree.of_bodySF hp hisR ?_
  intro p e s m args below meth c s₁ Bd hml0 hP hK
  obtain ⟨rfl, hZ, hh⟩ := hP
  have X0 : Stand p l e rm s m args below meth c s₁ [] 0 0 := Stand.of_body Bd
  have e0 : s₁.heap = h := by rw [← hh, Bd.state]; rfl
  obtain ⟨v, h', hD, hQ⟩ := f (p, e, s, m, args, below, meth, c, s₁, mkF m 0 Ls []) ⟨⟨Bd.exec, Bd.bytes, hml0, findClass_of_methodNamed Bd.named, hZ, Bd.returns, Bd.notSynchronized, (name_of_methodNamed Bd.named Bd.method).1⟩, s₁, [], X0, e0, Fr.nil n0, Steps.refl _⟩
  obtain ⟨T, locs, fs, X, eT, N, hs, hh', hrun, hend, hW, hsame⟩ := hD
  exact ⟨_, _, castTop (ef m) hs, hrun, hend, v, locs, rfl, ⟨N, hh'.symm ▸ hQ⟩, ⟨_, rfl⟩, hW, hsame⟩
theorem Rch.go (r : Rch l Z n0 R y bytes mx rt D h k n pc Ls st) {pc' : Nat} {Ls' : Array Slot} {st' : List Value}
    (f : ∀ {p : Program} {e : Env} {s : State} {m : MethodId} {args : Array Value} {below : List Frame} {meth : Method} {c : Code} {T : State} {locs : List Loc}, Stand p l e R s m args below meth c T locs k n → p.tables.exec = Jvm.exec → c.code = bytes → Z.Warmed39 s.vm → s.vm.findClass y.cls = some m.cls → T.heap = h →
      ∀ target, Steps p.tables e below (T.setTop (mkF m pc' Ls' st')) target → Steps p.tables e below (T.setTop (mkF m pc Ls st)) target) : Rch l Z n0 R y bytes mx rt D h k n pc' Ls' st' := by
  obtain ⟨p, e, s, m, args, below, meth, c, s₁, g0⟩ := D
  obtain ⟨hB, T, locs, X, eT, N, hs⟩ := r
  exact ⟨hB, T, locs, X, eT, N, hs.trans (f X hB.1 hB.2.1 hB.2.2.2.2.1 hB.2.2.2.1 eT _ (Steps.refl _))⟩
theorem Rch.mv (r : Rch l Z n0 R y bytes mx rt D h k n pc Ls st) {k' n' pc' : Nat} {Ls' : Array Slot} {st' : Heap → List Value} {P : Heap → Prop}
    (f : ∀ {p : Program} {e : Env} {s : State} {m : MethodId} {args : Array Value} {below : List Frame} {meth : Method} {c : Code} {T : State} {locs : List Loc}, Stand p l e R s m args below meth c T locs k n → p.tables.exec = Jvm.exec → c.code = bytes → c.maxLocals = mx → meth.name = y.name → Z.Warmed39 s.vm → s.vm.findClass y.cls = some m.cls → T.heap = h → Fr n0 locs →
      ∃ (T' : State) (h' : Heap) (locs' : List Loc), Stand p l e R s m args below meth c T' locs' k' n' ∧ T'.heap = h' ∧ P h' ∧ Fr n0 locs' ∧ Steps p.tables e below (T.setTop (mkF m pc Ls st)) (T'.setTop (mkF m pc' Ls' (st' h')))) : ∃ h', P h' ∧ Rch l Z n0 R y bytes mx rt D h' k' n' pc' Ls' (st' h') := by
  obtain ⟨p, e, s, m, args, below, meth, c, s₁, g0⟩ := D
  obtain ⟨hB, T, locs, X, eT, N, hs⟩ := r
  obtain ⟨T', h', locs', X', eT', hP, N', hs'⟩ := f X hB.1 hB.2.1 hB.2.2.1 hB.2.2.2.2.2.2.2 hB.2.2.2.2.1 hB.2.2.2.1 eT N
  exact ⟨h', hP, hB, T', locs', X', eT', N', hs.trans hs'⟩
theorem Rch.more (r : Rch l Z n0 R y bytes mx rt D h k n pc Ls st) {k' n' : Nat} (hk : k ≤ k') (hn : n ≤ n') : Rch l Z n0 R y bytes mx rt D h k' n' pc Ls st := by
  obtain ⟨p, e, s, m, args, below, meth, c, s₁, g0⟩ := D
  obtain ⟨hB, T, locs, X, eT, N, hs⟩ := r
  exact ⟨hB, T, locs, X.more hk hn, eT, N, hs⟩
theorem aload {i : Nat} {v : Value} (r : Rch l Z n0 R y bytes mx rt D h k n pc Ls st) (hd : decode bytes pc = .ok (.aload i, 2)) (hl : Ls[i]? = some (.val v)) (hv : v.isRef = true) : Rch l Z n0 R y bytes mx rt D h k n (pc + 2) Ls (v :: st) := r.go fun X hx b _ _ _ t q => XS.aload X.here hx rfl (hb b hd) hl hv q
theorem aloadN {i : Fin 4} {v : Value} (r : Rch l Z n0 R y bytes mx rt D h k n pc Ls st) (hd : decode bytes pc = .ok (.aload_n i, 1)) (hl : Ls[i.val]? = some (.val v)) (hv : v.isRef = true) : Rch l Z n0 R y bytes mx rt D h k n (pc + 1) Ls (v :: st) := r.go fun X hx b _ _ _ t q => XS.aloadN X.here hx rfl (hb b hd) hl hv q
theorem iload {i : Nat} {v : Int32} (r : Rch l Z n0 R y bytes mx rt D h k n pc Ls st) (hd : decode bytes pc = .ok (.iload i, 2)) (hl : Ls[i]? = some (.val (.int v))) : Rch l Z n0 R y bytes mx rt D h k n (pc + 2) Ls (.int v :: st) := r.go fun X hx b _ _ _ t q => XS.iload X.here hx rfl (hb b hd) hl q
theorem iloadN {i : Fin 4} {v : Int32} (r : Rch l Z n0 R y bytes mx rt D h k n pc Ls st) (hd : decode bytes pc = .ok (.iload_n i, 1)) (hl : Ls[i.val]? = some (.val (.int v))) : Rch l Z n0 R y bytes mx rt D h k n (pc + 1) Ls (.int v :: st) := r.go fun X hx b _ _ _ t q => XS.iloadN X.here hx rfl (hb b hd) hl q
theorem lload {i : Nat} {v : Int64} (r : Rch l Z n0 R y bytes mx rt D h k n pc Ls st) (hd : decode bytes pc = .ok (.lload i, 2)) (hl : Ls[i]? = some (.val (.long v))) : Rch l Z n0 R y bytes mx rt D h k n (pc + 2) Ls (.long v :: st) := r.go fun X hx b _ _ _ t q => XS.lload X.here hx rfl (hb b hd) hl q
theorem lloadN {i : Fin 4} {v : Int64} (r : Rch l Z n0 R y bytes mx rt D h k n pc Ls st) (hd : decode bytes pc = .ok (.lload_n i, 1)) (hl : Ls[i.val]? = some (.val (.long v))) : Rch l Z n0 R y bytes mx rt D h k n (pc + 1) Ls (.long v :: st) := r.go fun X hx b _ _ _ t q => XS.lloadN X.here hx rfl (hb b hd) hl q
theorem istore {x : Int32} {i : Nat} {L' : Array Slot} (r : Rch l Z n0 R y bytes mx rt D h k n pc Ls (.int x :: st)) (hd : decode bytes pc = .ok (.istore i, 2)) (hl : storeLocals Ls i (.int x) = some L') : Rch l Z n0 R y bytes mx rt D h k n (pc + 2) L' st := r.go fun X hx b _ _ _ t q => XS.istore X.here hx rfl (hb b hd) rfl hl q
theorem istoreN {x : Int32} {i : Fin 4} {L' : Array Slot} (r : Rch l Z n0 R y bytes mx rt D h k n pc Ls (.int x :: st)) (hd : decode bytes pc = .ok (.istore_n i, 1)) (hl : storeLocals Ls i.val (.int x) = some L') : Rch l Z n0 R y bytes mx rt D h k n (pc + 1) L' st := r.go fun X hx b _ _ _ t q => XS.istoreN X.here hx rfl (hb b hd) rfl hl q
theorem lstore {x : Int64} {i : Nat} {L' : Array Slot} (r : Rch l Z n0 R y bytes mx rt D h k n pc Ls (.long x :: st)) (hd : decode bytes pc = .ok (.lstore i, 2)) (hl : storeLocals Ls i (.long x) = some L') : Rch l Z n0 R y bytes mx rt D h k n (pc + 2) L' st := r.go fun X hx b _ _ _ t q => XS.lstore X.here hx rfl (hb b hd) rfl hl q
theorem lstoreN {x : Int64} {i : Fin 4} {L' : Array Slot} (r : Rch l Z n0 R y bytes mx rt D h k n pc Ls (.long x :: st)) (hd : decode bytes pc = .ok (.lstore_n i, 1)) (hl : storeLocals Ls i.val (.long x) = some L') : Rch l Z n0 R y bytes mx rt D h k n (pc + 1) L' st := r.go fun X hx b _ _ _ t q => XS.lstoreN X.here hx rfl (hb b hd) rfl hl q
theorem astore {x : Value} {i : Nat} {L' : Array Slot} (r : Rch l Z n0 R y bytes mx rt D h k n pc Ls (x :: st)) (hd : decode bytes pc = .ok (.astore i, 2)) (hv : x.isRef = true) (hl : storeLocals Ls i x = some L') : Rch l Z n0 R y bytes mx rt D h k n (pc + 2) L' st := r.go fun X hx b _ _ _ t q => XS.astore X.here hx rfl (hb b hd) rfl hv hl q
theorem astoreN {x : Value} {i : Fin 4} {L' : Array Slot} (r : Rch l Z n0 R y bytes mx rt D h k n pc Ls (x :: st)) (hd : decode bytes pc = .ok (.astore_n i, 1)) (hv : x.isRef = true) (hl : storeLocals Ls i.val x = some L') : Rch l Z n0 R y bytes mx rt D h k n (pc + 1) L' st := r.go fun X hx b _ _ _ t q => XS.astoreN X.here hx rfl (hb b hd) rfl hv hl q
theorem iconst {i : Int} {v : Int32} (r : Rch l Z n0 R y bytes mx rt D h k n pc Ls st) (hd : decode bytes pc = .ok (.iconst i, 1)) (hv : Int32.ofInt i = v) : Rch l Z n0 R y bytes mx rt D h k n (pc + 1) Ls (.int v :: st) := by subst hv; exact r.go fun X hx b _ _ _ t q => XS.iconst X.here hx rfl (hb b hd) q
theorem bipush {i : Int} {v : Int32} (r : Rch l Z n0 R y bytes mx rt D h k n pc Ls st) (hd : decode bytes pc = .ok (.bipush i, 2)) (hv : (Int8.ofInt i).toInt32 = v) : Rch l Z n0 R y bytes mx rt D h k n (pc + 2) Ls (.int v :: st) := by subst hv; exact r.go fun X hx b _ _ _ t q => XS.bipush X.here hx rfl (hb b hd) q
theorem sipush {i : Int} {v : Int32} (r : Rch l Z n0 R y bytes mx rt D h k n pc Ls st) (hd : decode bytes pc = .ok (.sipush i, 3)) (hv : (Int16.ofInt i).toInt32 = v) : Rch l Z n0 R y bytes mx rt D h k n (pc + 3) Ls (.int v :: st) := by subst hv; exact r.go fun X hx b _ _ _ t q => XS.sipush X.here hx rfl (hb b hd) q
theorem lconst {i : Fin 2} {v : Int64} (r : Rch l Z n0 R y bytes mx rt D h k n pc Ls st) (hd : decode bytes pc = .ok (.lconst i, 1)) (hv : Int64.ofNat i = v) : Rch l Z n0 R y bytes mx rt D h k n (pc + 1) Ls (.long v :: st) := by subst hv; exact r.go fun X hx b _ _ _ t q => XT.lconst X.here hx rfl (hb b hd) q
theorem aconstNull (r : Rch l Z n0 R y bytes mx rt D h k n pc Ls st) (hd : decode bytes pc = .ok (.aconst_null, 1)) : Rch l Z n0 R y bytes mx rt D h k n (pc + 1) Ls (.null :: st) := r.go fun X hx b _ _ _ t q => XS.aconstNull X.here hx rfl (hb b hd) q
theorem dup {x : Value} (r : Rch l Z n0 R y bytes mx rt D h k n pc Ls (x :: st)) (hd : decode bytes pc = .ok (.dup, 1)) (hc : x.category = 1) : Rch l Z n0 R y bytes mx rt D h k n (pc + 1) Ls (x :: x :: st) := r.go fun X hx b _ _ _ t q => XS.dup X.here hx rfl (hb b hd) rfl hc q
theorem pop {x : Value} (r : Rch l Z n0 R y bytes mx rt D h k n pc Ls (x :: st)) (hd : decode bytes pc = .ok (.pop, 1)) (hc : x.category = 1) : Rch l Z n0 R y bytes mx rt D h k n (pc + 1) Ls st := r.go fun X hx b _ _ _ t q => XS.pop X.here hx rfl (hb b hd) rfl hc q
theorem dupX1 {x z : Value} (r : Rch l Z n0 R y bytes mx rt D h k n pc Ls (x :: z :: st)) (hd : decode bytes pc = .ok (.dup_x1, 1)) (hc : x.category = 1) (hc2 : z.category = 1) : Rch l Z n0 R y bytes mx rt D h k n (pc + 1) Ls (x :: z :: x :: st) := r.go fun X hx b _ _ _ t q => XS.dupX1 X.here hx rfl (hb b hd) rfl hc hc2 q
theorem dup2 {x z : Value} (r : Rch l Z n0 R y bytes mx rt D h k n pc Ls (x :: z :: st)) (hd : decode bytes pc = .ok (.dup2, 1)) (hc : x.category = 1) (hc2 : z.category = 1) : Rch l Z n0 R y bytes mx rt D h k n (pc + 1) Ls (x :: z :: x :: z :: st) := r.go fun X hx b _ _ _ t q => XT.dup2 X.here hx rfl (hb b hd) rfl hc hc2 q
theorem dup2L {x : Int64} (r : Rch l Z n0 R y bytes mx rt D h k n pc Ls (.long x :: st)) (hd : decode bytes pc = .ok (.dup2, 1)) : Rch l Z n0 R y bytes mx rt D h k n (pc + 1) Ls (.long x :: .long x :: st) := r.go fun X hx b _ _ _ t q => XT.dup2L X.here hx rfl (hb b hd) rfl q
theorem iadd {x z : Int32} (r : Rch l Z n0 R y bytes mx rt D h k n pc Ls (.int z :: .int x :: st)) (hd : decode bytes pc = .ok (.iadd, 1)) : Rch l Z n0 R y bytes mx rt D h k n (pc + 1) Ls (.int (x + z) :: st) := r.go fun X hx b _ _ _ t q => XS.iadd X.here hx rfl (hb b hd) rfl q
theorem isub {x z : Int32} (r : Rch l Z n0 R y bytes mx rt D h k n pc Ls (.int z :: .int x :: st)) (hd : decode bytes pc = .ok (.isub, 1)) : Rch l Z n0 R y bytes mx rt D h k n (pc + 1) Ls (.int (x - z) :: st) := r.go fun X hx b _ _ _ t q => XS.isub X.here hx rfl (hb b hd) rfl q
theorem imul {x z : Int32} (r : Rch l Z n0 R y bytes mx rt D h k n pc Ls (.int z :: .int x :: st)) (hd : decode bytes pc = .ok (.imul, 1)) : Rch l Z n0 R y bytes mx rt D h k n (pc + 1) Ls (.int (x * z) :: st) := r.go fun X hx b _ _ _ t q => XS.imul X.here hx rfl (hb b hd) rfl q
theorem iand {x z : Int32} (r : Rch l Z n0 R y bytes mx rt D h k n pc Ls (.int z :: .int x :: st)) (hd : decode bytes pc = .ok (.iand, 1)) : Rch l Z n0 R y bytes mx rt D h k n (pc + 1) Ls (.int (x &&& z) :: st) := r.go fun X hx b _ _ _ t q => XS.iand X.here hx rfl (hb b hd) rfl q
theorem ior {x z : Int32} (r : Rch l Z n0 R y bytes mx rt D h k n pc Ls (.int z :: .int x :: st)) (hd : decode bytes pc = .ok (.ior, 1)) : Rch l Z n0 R y bytes mx rt D h k n (pc + 1) Ls (.int (x ||| z) :: st) := r.go fun X hx b _ _ _ t q => XS.ior X.here hx rfl (hb b hd) rfl q
theorem ixor {x z : Int32} (r : Rch l Z n0 R y bytes mx rt D h k n pc Ls (.int z :: .int x :: st)) (hd : decode bytes pc = .ok (.ixor, 1)) : Rch l Z n0 R y bytes mx rt D h k n (pc + 1) Ls (.int (x ^^^ z) :: st) := r.go fun X hx b _ _ _ t q => XS.ixor X.here hx rfl (hb b hd) rfl q
theorem ishl {x z : Int32} (r : Rch l Z n0 R y bytes mx rt D h k n pc Ls (.int z :: .int x :: st)) (hd : decode bytes pc = .ok (.ishl, 1)) : Rch l Z n0 R y bytes mx rt D h k n (pc + 1) Ls (.int (ishlW x z) :: st) := r.go fun X hx b _ _ _ t q => XS.ishl X.here hx rfl (hb b hd) rfl q
theorem ishr {x z : Int32} (r : Rch l Z n0 R y bytes mx rt D h k n pc Ls (.int z :: .int x :: st)) (hd : decode bytes pc = .ok (.ishr, 1)) : Rch l Z n0 R y bytes mx rt D h k n (pc + 1) Ls (.int (ishrW x z) :: st) := r.go fun X hx b _ _ _ t q => XS.ishr X.here hx rfl (hb b hd) rfl q
theorem iushr {x z : Int32} (r : Rch l Z n0 R y bytes mx rt D h k n pc Ls (.int z :: .int x :: st)) (hd : decode bytes pc = .ok (.iushr, 1)) : Rch l Z n0 R y bytes mx rt D h k n (pc + 1) Ls (.int (iushrW x z) :: st) := r.go fun X hx b _ _ _ t q => XS.iushr X.here hx rfl (hb b hd) rfl q
theorem idiv {x z : Int32} (r : Rch l Z n0 R y bytes mx rt D h k n pc Ls (.int z :: .int x :: st)) (hd : decode bytes pc = .ok (.idiv, 1)) (hz : z ≠ 0) : Rch l Z n0 R y bytes mx rt D h k n (pc + 1) Ls (.int (x / z) :: st) := r.go fun X hx b _ _ _ t q => XS.idiv X.here hx rfl (hb b hd) rfl hz q
theorem irem {x z : Int32} (r : Rch l Z n0 R y bytes mx rt D h k n pc Ls (.int z :: .int x :: st)) (hd : decode bytes pc = .ok (.irem, 1)) (hz : z ≠ 0) : Rch l Z n0 R y bytes mx rt D h k n (pc + 1) Ls (.int (x % z) :: st) := r.go fun X hx b _ _ _ t q => iremM X hx rfl (hb b hd) rfl hz q
theorem ineg {x : Int32} (r : Rch l Z n0 R y bytes mx rt D h k n pc Ls (.int x :: st)) (hd : decode bytes pc = .ok (.ineg, 1)) : Rch l Z n0 R y bytes mx rt D h k n (pc + 1) Ls (.int (-x) :: st) := r.go fun X hx b _ _ _ t q => XS.ineg X.here hx rfl (hb b hd) rfl q
theorem ladd {x z : Int64} (r : Rch l Z n0 R y bytes mx rt D h k n pc Ls (.long z :: .long x :: st)) (hd : decode bytes pc = .ok (.ladd, 1)) : Rch l Z n0 R y bytes mx rt D h k n (pc + 1) Ls (.long (x + z) :: st) := r.go fun X hx b _ _ _ t q => XS.ladd X.here hx rfl (hb b hd) rfl q
theorem lsub {x z : Int64} (r : Rch l Z n0 R y bytes mx rt D h k n pc Ls (.long z :: .long x :: st)) (hd : decode bytes pc = .ok (.lsub, 1)) : Rch l Z n0 R y bytes mx rt D h k n (pc + 1) Ls (.long (x - z) :: st) := r.go fun X hx b _ _ _ t q => XS.lsub X.here hx rfl (hb b hd) rfl q
theorem lmul {x z : Int64} (r : Rch l Z n0 R y bytes mx rt D h k n pc Ls (.long z :: .long x :: st)) (hd : decode bytes pc = .ok (.lmul, 1)) : Rch l Z n0 R y bytes mx rt D h k n (pc + 1) Ls (.long (x * z) :: st) := r.go fun X hx b _ _ _ t q => XS.lmul X.here hx rfl (hb b hd) rfl q
theorem land {x z : Int64} (r : Rch l Z n0 R y bytes mx rt D h k n pc Ls (.long z :: .long x :: st)) (hd : decode bytes pc = .ok (.land, 1)) : Rch l Z n0 R y bytes mx rt D h k n (pc + 1) Ls (.long (x &&& z) :: st) := r.go fun X hx b _ _ _ t q => XS.land X.here hx rfl (hb b hd) rfl q
theorem lor {x z : Int64} (r : Rch l Z n0 R y bytes mx rt D h k n pc Ls (.long z :: .long x :: st)) (hd : decode bytes pc = .ok (.lor, 1)) : Rch l Z n0 R y bytes mx rt D h k n (pc + 1) Ls (.long (x ||| z) :: st) := r.go fun X hx b _ _ _ t q => XS.lor X.here hx rfl (hb b hd) rfl q
theorem lxor {x z : Int64} (r : Rch l Z n0 R y bytes mx rt D h k n pc Ls (.long z :: .long x :: st)) (hd : decode bytes pc = .ok (.lxor, 1)) : Rch l Z n0 R y bytes mx rt D h k n (pc + 1) Ls (.long (x ^^^ z) :: st) := r.go fun X hx b _ _ _ t q => XS.lxor X.here hx rfl (hb b hd) rfl q
theorem ldiv {x z : Int64} (r : Rch l Z n0 R y bytes mx rt D h k n pc Ls (.long z :: .long x :: st)) (hd : decode bytes pc = .ok (.ldiv, 1)) (hz : z ≠ 0) : Rch l Z n0 R y bytes mx rt D h k n (pc + 1) Ls (.long (x / z) :: st) := r.go fun X hx b _ _ _ t q => XS.ldiv X.here hx rfl (hb b hd) rfl hz q
theorem lrem {x z : Int64} (r : Rch l Z n0 R y bytes mx rt D h k n pc Ls (.long z :: .long x :: st)) (hd : decode bytes pc = .ok (.lrem, 1)) (hz : z ≠ 0) : Rch l Z n0 R y bytes mx rt D h k n (pc + 1) Ls (.long (lremW x z) :: st) := r.go fun X hx b _ _ _ t q => XS.lrem X.here hx rfl (hb b hd) rfl hz q
theorem lcmp {x z : Int64} (r : Rch l Z n0 R y bytes mx rt D h k n pc Ls (.long z :: .long x :: st)) (hd : decode bytes pc = .ok (.lcmp, 1)) : Rch l Z n0 R y bytes mx rt D h k n (pc + 1) Ls (.int (XT.cmpL x z) :: st) := r.go fun X hx b _ _ _ t q => XT.lcmp X.here hx rfl (hb b hd) rfl q
theorem lneg {x : Int64} (r : Rch l Z n0 R y bytes mx rt D h k n pc Ls (.long x :: st)) (hd : decode bytes pc = .ok (.lneg, 1)) : Rch l Z n0 R y bytes mx rt D h k n (pc + 1) Ls (.long (-x) :: st) := r.go fun X hx b _ _ _ t q => XS.lneg X.here hx rfl (hb b hd) rfl q
theorem lshl {x : Int64} {z : Int32} (r : Rch l Z n0 R y bytes mx rt D h k n pc Ls (.int z :: .long x :: st)) (hd : decode bytes pc = .ok (.lshl, 1)) : Rch l Z n0 R y bytes mx rt D h k n (pc + 1) Ls (.long (lshlW x z) :: st) := r.go fun X hx b _ _ _ t q => XS.lshl X.here hx rfl (hb b hd) rfl q
theorem lshr {x : Int64} {z : Int32} (r : Rch l Z n0 R y bytes mx rt D h k n pc Ls (.int z :: .long x :: st)) (hd : decode bytes pc = .ok (.lshr, 1)) : Rch l Z n0 R y bytes mx rt D h k n (pc + 1) Ls (.long (lshrW x z) :: st) := r.go fun X hx b _ _ _ t q => XS.lshr X.here hx rfl (hb b hd) rfl q
theorem lushr {x : Int64} {z : Int32} (r : Rch l Z n0 R y bytes mx rt D h k n pc Ls (.int z :: .long x :: st)) (hd : decode bytes pc = .ok (.lushr, 1)) : Rch l Z n0 R y bytes mx rt D h k n (pc + 1) Ls (.long (lushrW x z) :: st) := r.go fun X hx b _ _ _ t q => XS.lushr X.here hx rfl (hb b hd) rfl q
theorem i2l {x : Int32} (r : Rch l Z n0 R y bytes mx rt D h k n pc Ls (.int x :: st)) (hd : decode bytes pc = .ok (.i2l, 1)) : Rch l Z n0 R y bytes mx rt D h k n (pc + 1) Ls (.long x.toInt64 :: st) := r.go fun X hx b _ _ _ t q => XS.i2l X.here hx rfl (hb b hd) rfl q
theorem l2i {x : Int64} (r : Rch l Z n0 R y bytes mx rt D h k n pc Ls (.long x :: st)) (hd : decode bytes pc = .ok (.l2i, 1)) : Rch l Z n0 R y bytes mx rt D h k n (pc + 1) Ls (.int x.toInt32 :: st) := r.go fun X hx b _ _ _ t q => XS.l2i X.here hx rfl (hb b hd) rfl q
theorem i2b {x : Int32} (r : Rch l Z n0 R y bytes mx rt D h k n pc Ls (.int x :: st)) (hd : decode bytes pc = .ok (.i2b, 1)) : Rch l Z n0 R y bytes mx rt D h k n (pc + 1) Ls (.int (i2bW x) :: st) := r.go fun X hx b _ _ _ t q => XS.i2b X.here hx rfl (hb b hd) rfl q
theorem i2c {x : Int32} (r : Rch l Z n0 R y bytes mx rt D h k n pc Ls (.int x :: st)) (hd : decode bytes pc = .ok (.i2c, 1)) : Rch l Z n0 R y bytes mx rt D h k n (pc + 1) Ls (.int (i2cW x) :: st) := r.go fun X hx b _ _ _ t q => XS.i2c X.here hx rfl (hb b hd) rfl q
theorem i2s {x : Int32} (r : Rch l Z n0 R y bytes mx rt D h k n pc Ls (.int x :: st)) (hd : decode bytes pc = .ok (.i2s, 1)) : Rch l Z n0 R y bytes mx rt D h k n (pc + 1) Ls (.int (i2sW x) :: st) := r.go fun X hx b _ _ _ t q => XS.i2s X.here hx rfl (hb b hd) rfl q
theorem iinc {i : Nat} {cst : Int} {x v : Int32} {L' : Array Slot} (r : Rch l Z n0 R y bytes mx rt D h k n pc Ls st) (hd : decode bytes pc = .ok (.iinc i cst, 3)) (hl : Ls[i]? = some (.val (.int x))) (hv : Int32.ofInt cst = v) (hl' : storeLocals Ls i (.int (x + v)) = some L') : Rch l Z n0 R y bytes mx rt D h k n (pc + 3) L' st := by subst hv; exact r.go fun X hx b _ _ _ t q => XS.iinc X.here hx rfl (hb b hd) hl hl' q
/-! branches -/
theorem goto {o : Int} {pc' : Nat} (r : Rch l Z n0 R y bytes mx rt D h k n pc Ls st) (hd : decode bytes pc = .ok (.goto o, 3)) (ho : 0 ≤ (pc : Int) + o) (hp : ((pc : Int) + o).toNat = pc') : Rch l Z n0 R y bytes mx rt D h k n pc' Ls st := r.go fun X hx b _ _ _ t q => XS.goto X.here hx rfl (pc0 := pc) rfl (hb b hd) ho hp q
theorem ifYes {cd : ClassFile.Cond} {x : Int32} {o : Int} {pc' : Nat} (r : Rch l Z n0 R y bytes mx rt D h k n pc Ls (.int x :: st)) (hd : decode bytes pc = .ok (.ifCond cd o, 3)) (hc : ifCond.holds cd x = true) (ho : 0 ≤ (pc : Int) + o) (hp : ((pc : Int) + o).toNat = pc') : Rch l Z n0 R y bytes mx rt D h k n pc' Ls st := r.go fun X hx b _ _ _ t q => XS.ifYes X.here hx rfl (pc0 := pc) rfl (hb b hd) rfl hc ho hp q
theorem ifNo {cd : ClassFile.Cond} {x : Int32} {o : Int} (r : Rch l Z n0 R y bytes mx rt D h k n pc Ls (.int x :: st)) (hd : decode bytes pc = .ok (.ifCond cd o, 3)) (hc : ifCond.holds cd x = false) : Rch l Z n0 R y bytes mx rt D h k n (pc + 3) Ls st := r.go fun X hx b _ _ _ t q => XS.ifNo X.here hx rfl (hb b hd) rfl hc q
theorem icmpYes {cd : ClassFile.Cond} {x z : Int32} {o : Int} {pc' : Nat} (r : Rch l Z n0 R y bytes mx rt D h k n pc Ls (.int z :: .int x :: st)) (hd : decode bytes pc = .ok (.if_icmp cd o, 3)) (hc : if_icmp.holds cd x z = true) (ho : 0 ≤ (pc : Int) + o) (hp : ((pc : Int) + o).toNat = pc') : Rch l Z n0 R y bytes mx rt D h k n pc' Ls st := r.go fun X hx b _ _ _ t q => XS.icmpYes X.here hx rfl (pc0 := pc) rfl (hb b hd) rfl hc ho hp q
theorem icmpNo {cd : ClassFile.Cond} {x z : Int32} {o : Int} (r : Rch l Z n0 R y bytes mx rt D h k n pc Ls (.int z :: .int x :: st)) (hd : decode bytes pc = .ok (.if_icmp cd o, 3)) (hc : if_icmp.holds cd x z = false) : Rch l Z n0 R y bytes mx rt D h k n (pc + 3) Ls st := r.go fun X hx b _ _ _ t q => XS.icmpNo X.here hx rfl (hb b hd) rfl hc q
theorem ifnullYes {o : Int} {pc' : Nat} (r : Rch l Z n0 R y bytes mx rt D h k n pc Ls (.null :: st)) (hd : decode bytes pc = .ok (.ifnull o, 3)) (ho : 0 ≤ (pc : Int) + o) (hp : ((pc : Int) + o).toNat = pc') : Rch l Z n0 R y bytes mx rt D h k n pc' Ls st := r.go fun X hx b _ _ _ t q => XS.ifnullYes X.here hx rfl (pc0 := pc) rfl (hb b hd) rfl ho hp q
theorem ifnullNo {o : Int} {a : Addr} (r : Rch l Z n0 R y bytes mx rt D h k n pc Ls (.ref a :: st)) (hd : decode bytes pc = .ok (.ifnull o, 3)) : Rch l Z n0 R y bytes mx rt D h k n (pc + 3) Ls st := r.go fun X hx b _ _ _ t q => XS.ifnullNo X.here hx rfl (hb b hd) rfl q
theorem ifnonnullYes {o : Int} {a : Addr} {pc' : Nat} (r : Rch l Z n0 R y bytes mx rt D h k n pc Ls (.ref a :: st)) (hd : decode bytes pc = .ok (.ifnonnull o, 3)) (ho : 0 ≤ (pc : Int) + o) (hp : ((pc : Int) + o).toNat = pc') : Rch l Z n0 R y bytes mx rt D h k n pc' Ls st := r.go fun X hx b _ _ _ t q => XS.ifnonnullYes X.here hx rfl (pc0 := pc) rfl (hb b hd) rfl ho hp q
theorem ifnonnullNo {o : Int} (r : Rch l Z n0 R y bytes mx rt D h k n pc Ls (.null :: st)) (hd : decode bytes pc = .ok (.ifnonnull o, 3)) : Rch l Z n0 R y bytes mx rt D h k n (pc + 3) Ls st := r.go fun X hx b _ _ _ t q => XS.ifnonnullNo X.here hx rfl (hb b hd) rfl q
theorem acmp {cd : ClassFile.ACond} {x z : Value} {o : Int} {pc' : Nat} {same : Bool} (r : Rch l Z n0 R y bytes mx rt D h k n pc Ls (z :: x :: st)) (hd : decode bytes pc = .ok (.if_acmp cd o, 3)) (h1 : x.isRef = true) (h2 : z.isRef = true) (hq : decide (x = z) = same) (ho : 0 ≤ (pc : Int) + o) (hp : pc' = if acV cd same = true then ((pc : Int) + o).toNat else pc + 3) : Rch l Z n0 R y bytes mx rt D h k n pc' Ls st := r.go fun X hx b _ _ _ t q => Jvm.RoadKit.acmp X hx rfl h1 h2 (pc0 := pc) rfl (hb b hd) rfl hq ho hp q
/-! constants, fields, new cells -/
theorem ldcI {index : Nat} {v : Int32} (r : Rch l Z n0 R y bytes mx rt D h k n pc Ls st) (hd : decode bytes pc = .ok (.ldc index, 2)) (w : (Jvm.Cond.constant y.cls index v).before a0 Z = true) : Rch l Z n0 R y bytes mx rt D h k n (pc + 2) Ls (.int v :: st) := r.go fun X hx b hZ ho _ t q => X.ldcInt hx ho (mvT hZ w) (g := mkF _ pc Ls st) rfl (hb b hd) t q
theorem ldcJ {index : Nat} {v : Int64} (r : Rch l Z n0 R y bytes mx rt D h k n pc Ls st) (hd : decode bytes pc = .ok (.ldc2_w index, 3)) (w : (Jvm.Cond.constantLong y.cls index v).before a0 Z = true) : Rch l Z n0 R y bytes mx rt D h k n (pc + 3) Ls (.long v :: st) := r.go fun X hx b hZ ho _ t q => X.ldc2Long hx ho (mvT hZ w) (g := mkF _ pc Ls st) rfl (hb b hd) t q
theorem getfield {R0 O nm d host : String} {index : Nat} {a : Addr} {v : Value} (r : Rch l Z n0 R y bytes mx rt D h k n pc Ls (.ref a :: st)) (hd : decode bytes pc = .ok (.getfield index, 3)) (w : (Jvm.Cond.fieldLink y.cls index R0 nm d).before a0 Z = true ∨ (Jvm.Cond.fieldLinkNest y.cls index R0 nm d host).before a0 Z = true) (via : Via Z R0 O nm d) (F : Fld Z h a O nm d v) : Rch l Z n0 R y bytes mx rt D h k n (pc + 3) Ls (v :: st) := by
  obtain ⟨h', rfl, r'⟩ := r.mv (P := fun h' => h = h') (st' := fun _ => v :: st) (k' := k) (n' := n) (pc' := pc + 3) (Ls' := Ls) fun X hx b _ _ hZ ho eT N => by
    obtain ⟨T', X', e', s'⟩ := getF X hx hZ ho w via eT F (g := mkF _ pc Ls (.ref a :: st)) rfl rfl (hb b hd)
    exact ⟨T', h, _, X', e', rfl, N, s' _ (Steps.refl _)⟩
  exact r'
theorem getstatic {R0 O nm d : String} {index : Nat} {v : Value} (r : Rch l Z n0 R y bytes mx rt D h k n pc Ls st) (hd : decode bytes pc = .ok (.getstatic index, 3)) (w : (Jvm.Cond.fieldLink y.cls index R0 nm d).before a0 Z = true) (via : Via Z R0 O nm d) (F : Sta Z h O nm d v) : Rch l Z n0 R y bytes mx rt D h k n (pc + 3) Ls (v :: st) := by
  obtain ⟨h', rfl, r'⟩ := r.mv (P := fun h' => h = h') (st' := fun _ => v :: st) (k' := k) (n' := n) (pc' := pc + 3) (Ls' := Ls) fun X hx b _ _ hZ ho eT N => by
    obtain ⟨T', X', e', s'⟩ := getS X hx hZ (host := "") ho w via eT F (g := mkF _ pc Ls st) rfl (hb b hd)
    exact ⟨T', h, _, X', e', rfl, N, s' _ (Steps.refl _)⟩
  exact r'
theorem putfield {R0 O nm d host C : String} {index kk : Nat} {ty : FieldType} {a : Addr} {v old : Value} (r : Rch l Z n0 R y bytes mx rt D h k n pc Ls (v :: .ref a :: st)) (hd : decode bytes pc = .ok (.putfield index, 3)) (w : (Jvm.Cond.fieldLink y.cls index R0 nm d).before a0 Z = true ∨ (Jvm.Cond.fieldLinkNest y.cls index R0 nm d host).before a0 Z = true) (via : Via Z R0 O nm d) (F : Fld Z h a O nm d old) (E : Exa Z h a C)
    (L : (Jvm.Cond.lays C O nm d).before a0 Z = true ∨ ((Jvm.Cond.laysFinal C O nm d).before a0 Z = true ∧ y.cls = O ∧ y.name = "<init>")) (wi : (Jvm.Cond.instantiable C kk).before a0 Z = true) (hty : parseFieldDescriptor d = some ty) (hn : narrow ty v = v) (hf : fits ty v = true) (hg : n0 ≤ a) :
    ∃ h', Wr h h' a (Jvm.RoadKit.slotOf Z O nm d) v ∧ Rch l Z n0 R y bytes mx rt D h' k n (pc + 3) Ls st :=
  r.mv (P := fun h' => Wr h h' a (Jvm.RoadKit.slotOf Z O nm d) v) (st' := fun _ => st) fun X hx b _ hnm hZ ho eT N => by
    obtain ⟨T', h', X', e', W, s'⟩ := putF X hx hZ ho w via eT F E (L.imp id fun q => ⟨q.1, q.2.1, hnm.trans q.2.2⟩) wi hty hn hf (g := mkF _ pc Ls (v :: .ref a :: st)) rfl rfl (hb b hd)
    exact ⟨T', h', _, X', e', W, Fr.snoc X' N hg, s' _ (Steps.refl _)⟩
theorem newObj {C : String} {index nn : Nat} (r : Rch l Z n0 R y bytes mx rt D h k n pc Ls st) (hd : decode bytes pc = .ok (.new index, 3)) (w : (Jvm.Cond.classLink y.cls index C).before a0 Z = true) (wi : (Jvm.Cond.instantiable C nn).before a0 Z = true) (wz : (Jvm.Cond.initialized C).before a0 Z = true) (hc : k + 1 ≤ R.cells) (hl : n + nn ≤ R.slots) :
    ∃ h', (Ext h h' ∧ Exa Z h' h.size C ∧ ∀ {O nm d : String} {ty : FieldType}, Laid Z a0 C O nm d → parseFieldDescriptor d = some ty → Fld Z h' h.size O nm d (defaultValue ty)) ∧ Rch l Z n0 R y bytes mx rt D h' (k + 1) (n + nn) (pc + 3) Ls (.ref h.size :: st) :=
  r.mv (P := fun h' => Ext h h' ∧ Exa Z h' h.size C ∧ ∀ {O nm d : String} {ty : FieldType}, Laid Z a0 C O nm d → parseFieldDescriptor d = some ty → Fld Z h' h.size O nm d (defaultValue ty)) (st' := fun _ => .ref h.size :: st) fun X hx b _ _ hZ ho eT N => by
    obtain ⟨T', h', X', e', E', A', D', -, s'⟩ := newO X hx hZ ho w wi wz eT (g := mkF _ pc Ls st) rfl (hb b hd) hc hl
    exact ⟨T', h', _, X', e', ⟨E', A', D'⟩, N, s' _ (Steps.refl _)⟩
theorem initObj {index : Nat} {a : Addr} {W : Nat} (r : Rch l Z n0 R y bytes mx rt D h k n pc Ls (.ref a :: st)) (hd : decode bytes pc = .ok (.invokespecial index, 3)) (w1 : (Jvm.Cond.methodLink y.cls index Lib.objectInit).before a0 Z = true) (w2 : (Jvm.Cond.instanceMethod Lib.objectInit).before a0 Z = true) (w3 : (Jvm.Cond.code Lib.objectInit ⟨#[0xb1]⟩ 1 none).before a0 Z = true) (hsz : Ls.size = mx) (hf : 1 ≤ R.frames) (hW : (st.map fun v => v.category).sum ≤ W) (hl : W + 12 ≤ R.locals) : Rch l Z n0 R y bytes mx rt D h k n (pc + 3) Ls st := by
  obtain ⟨h', rfl, r'⟩ := r.mv (P := fun h' => h = h') (st' := fun _ => st) (k' := k) (n' := n) (pc' := pc + 3) (Ls' := Ls) fun X hx b hml _ hZ ho eT N => by
    obtain ⟨T', X', e', s'⟩ := initO X hx hZ ho w1 w2 w3 eT (g := mkF _ pc Ls (.ref a :: st)) rfl (hsz.trans hml.symm) rfl (hb b hd) hf (W := W) (by show 2 * 0 + _ ≤ _; omega) hl
    exact ⟨T', h, _, X', e', rfl, N, s' _ (Steps.refl _)⟩
  exact r'
theorem instYes {K : String} {index : Nat} {a : Addr} (r : Rch l Z n0 R y bytes mx rt D h k n pc Ls (.ref a :: st)) (hd : decode bytes pc = .ok (.instanceof index, 3)) (w : (Jvm.Cond.classLink y.cls index K).before a0 Z = true) (F : Ins Z h a K true) : Rch l Z n0 R y bytes mx rt D h k n (pc + 3) Ls (.int 1 :: st) := by
  obtain ⟨h', rfl, r'⟩ := r.mv (P := fun h' => h = h') (st' := fun _ => .int 1 :: st) (k' := k) (n' := n) (pc' := pc + 3) (Ls' := Ls) fun X hx b _ _ hZ ho eT N => by
    obtain ⟨T', X', e', s'⟩ := instY X hx hZ ho w eT F (g := mkF _ pc Ls (.ref a :: st)) rfl rfl (hb b hd)
    exact ⟨T', h, _, X', e', rfl, N, s' _ (Steps.refl _)⟩
  exact r'
theorem instNo {K C : String} {index : Nat} {a : Addr} (r : Rch l Z n0 R y bytes mx rt D h k n pc Ls (.ref a :: st)) (hd : decode bytes pc = .ok (.instanceof index, 3)) (w : (Jvm.Cond.classLink y.cls index K).before a0 Z = true) (E : Exa Z h a C) (F : ∃ c t, Z.vm.findClass C = some c ∧ Z.vm.findClass K = some t ∧ Z.vm.assignable c t = false) : Rch l Z n0 R y bytes mx rt D h k n (pc + 3) Ls (.int 0 :: st) := by
  obtain ⟨h', rfl, r'⟩ := r.mv (P := fun h' => h = h') (st' := fun _ => .int 0 :: st) (k' := k) (n' := n) (pc' := pc + 3) (Ls' := Ls) fun X hx b _ _ hZ ho eT N => by
    obtain ⟨T', X', e', s'⟩ := Jvm.RoadKit.instNo X hx hZ ho w eT E F (g := mkF _ pc Ls (.ref a :: st)) rfl rfl (hb b hd)
    exact ⟨T', h, _, X', e', rfl, N, s' _ (Steps.refl _)⟩
  exact r'
theorem instNull {index : Nat} (r : Rch l Z n0 R y bytes mx rt D h k n pc Ls (.null :: st)) (hd : decode bytes pc = .ok (.instanceof index, 3)) : Rch l Z n0 R y bytes mx rt D h k n (pc + 3) Ls (.int 0 :: st) := r.go fun X hx b _ _ _ t q => X.instanceofNull hx (g := mkF _ pc Ls (.null :: st)) rfl rfl (hb b hd) t q
theorem castYes {K : String} {index : Nat} {a : Addr} (r : Rch l Z n0 R y bytes mx rt D h k n pc Ls (.ref a :: st)) (hd : decode bytes pc = .ok (.checkcast index, 3)) (w : (Jvm.Cond.classLink y.cls index K).before a0 Z = true) (F : Ins Z h a K true) : Rch l Z n0 R y bytes mx rt D h k n (pc + 3) Ls (.ref a :: st) := by
  obtain ⟨h', rfl, r'⟩ := r.mv (P := fun h' => h = h') (st' := fun _ => .ref a :: st) (k' := k) (n' := n) (pc' := pc + 3) (Ls' := Ls) fun X hx b _ _ hZ ho eT N => by
    obtain ⟨T', X', e', s'⟩ := castY X hx hZ ho w eT F (g := mkF _ pc Ls (.ref a :: st)) rfl rfl (hb b hd)
    exact ⟨T', h, _, X', e', rfl, N, s' _ (Steps.refl _)⟩
  exact r'
theorem aaload {a : Addr} {c : Cell} {ty : FieldType} {j : Int32} {v : Value} (r : Rch l Z n0 R y bytes mx rt D h k n pc Ls (.int j :: .ref a :: st)) (hd : decode bytes pc = .ok (.aaload, 1)) (A : Arr Z h a c ty) (ht : ty.isReference = true) (hi : ¬ (j < 0 ∨ c.slots.size ≤ j.toNatClampNeg)) (hv : c.slots[j.toNatClampNeg]? = some v) : Rch l Z n0 R y bytes mx rt D h k n (pc + 1) Ls (v :: st) :=
  r.go fun X hx b hZ _ eT t q => X.aaload hx (j := j) (v := v) (by rw [eT]; exact A.1) (State.isArrayOf_alike hZ.alike A.2.1) ht A.2.2 hi hv (g := mkF _ pc Ls (.int j :: .ref a :: st)) rfl rfl (hb b hd) t q
/-! arrays: their elements as a list -/
def VA (Z : State) (h : Heap) (a : Addr) (ty : FieldType) (vs : List Value) : Prop := ∃ c : Cell, Arr Z h a c ty ∧ c.slots = vs.toArray ∧ vs.length < 2 ^ 31
section Facts
variable {a b : Addr} {ty : FieldType} {vs : List Value} {sl : Nat} {v : Value} {ws : List Addr}
theorem VA.lt (A : VA Z h a ty vs) : a < h.size := by obtain ⟨c, A, -⟩ := A; exact A.lt
theorem VA.len (A : VA Z h a ty vs) : vs.length < 2 ^ 31 := by obtain ⟨c, -, -, q⟩ := A; exact q
theorem VA.ext (A : VA Z h a ty vs) (E : Ext h h') : VA Z h' a ty vs := by obtain ⟨c, A, r⟩ := A; exact ⟨c, A.ext E, r⟩
theorem VA.other (A : VA Z h b ty vs) (W : Wr h h' a sl v) (q : b ≠ a) : VA Z h' b ty vs := by obtain ⟨c, A, r⟩ := A; exact ⟨c, A.other W q, r⟩
theorem VA.keep (A : VA Z h a ty vs) (K : Keep h h' ws) (q : a ∉ ws) : VA Z h' a ty vs := by obtain ⟨c, A, r⟩ := A; exact ⟨c, ⟨K.2.1 a c A.1 q, A.2⟩, r⟩
theorem VA.set (A : VA Z h a ty vs) (W : Wr h h' a sl v) : VA Z h' a ty (vs.set sl v) := by
  obtain ⟨c, A, e, q⟩ := A
  refine ⟨c.setSlot sl v, A.same W, ?_, by simpa using q⟩
  show c.slots.setIfInBounds sl v = _
  rw [e]; simp
theorem VA.new {cA : ClassId} {z : Int32} (A : Arr Z h a (newA cA ty z) ty) (q : ¬ z < 0) : VA Z h a ty (List.replicate z.toNatClampNeg (defaultValue ty)) := by
  refine ⟨_, A, ?_, ?_⟩
  · simp [newA]
  · rw [List.length_replicate]; exact (back32 q).2
theorem VA.inb (A : VA Z h a ty vs) {j : Int32} (hj : ¬ j < 0) (hlt : j.toNatClampNeg < vs.length) : ∃ c, Arr Z h a c ty ∧ c.slots = vs.toArray ∧ ¬ (j < 0 ∨ c.slots.size ≤ j.toNatClampNeg) := by
  obtain ⟨c, A, e, -⟩ := A
  exact ⟨c, A, e, fun q => q.elim hj fun q => by rw [e] at q; simp at q; omega⟩
theorem ne_lt {x z : Addr} {H : Heap} (p : x < H.size) (q : z = H.size) : x ≠ z := fun e => by rw [e, q] at p; exact Nat.lt_irrefl _ p
end Facts
theorem newArr {aty : ArrayType} {z : Int32} {cap : Nat} (r : Rch l Z n0 R y bytes mx rt D h k n pc Ls (.int z :: st)) (hd : decode bytes pc = .ok (.newarray aty, 2)) (w : (Jvm.Cond.arrayClass (newarray.typeOf aty)).before a0 Z = true) (hz : ¬ z < 0) (hcap : z.toNatClampNeg ≤ cap) (h8 : cap * 8 ≤ 536870912) (hc : k + 1 ≤ R.cells) (hl : n + cap ≤ R.slots) :
    ∃ h', (Ext h h' ∧ VA Z h' h.size (newarray.typeOf aty) (List.replicate z.toNatClampNeg (defaultValue (newarray.typeOf aty)))) ∧ Rch l Z n0 R y bytes mx rt D h' (k + 1) (n + cap) (pc + 2) Ls (.ref h.size :: st) :=
  r.mv (P := fun h' => Ext h h' ∧ VA Z h' h.size (newarray.typeOf aty) (List.replicate z.toNatClampNeg (defaultValue (newarray.typeOf aty)))) (st' := fun _ => .ref h.size :: st) fun X hx b _ _ hZ ho eT N => by
    obtain ⟨T', h', cA, X', e', E', A', s'⟩ := newP X hx hZ w eT (g := mkF _ pc Ls (.int z :: st)) rfl (hb b hd) rfl hz hcap h8 hc hl
    exact ⟨T', h', _, X', e', ⟨E', VA.new A' hz⟩, N, s' _ (Steps.refl _)⟩
theorem arrlen {a : Addr} {ty : FieldType} {vs : List Value} {z : Int32} (r : Rch l Z n0 R y bytes mx rt D h k n pc Ls (.ref a :: st)) (hd : decode bytes pc = .ok (.arraylength, 1)) (A : VA Z h a ty vs) (hz : vs.length.toInt32 = z) : Rch l Z n0 R y bytes mx rt D h k n (pc + 1) Ls (.int z :: st) := by
  subst hz
  obtain ⟨c, A, e, -⟩ := A
  have q : vs.length = c.slots.size := by rw [e]; simp
  rw [q]
  exact r.go fun X hx b hZ _ eT t q => X.arraylength hx (by rw [eT]; exact A.1) (State.isArrayOf_alike hZ.alike A.2.1) (g := mkF _ pc Ls (.ref a :: st)) rfl rfl (hb b hd) t q
theorem iaload {a : Addr} {vs : List Value} {j : Int32} {v : Value} (r : Rch l Z n0 R y bytes mx rt D h k n pc Ls (.int j :: .ref a :: st)) (hd : decode bytes pc = .ok (.iaload, 1)) (A : VA Z h a .int vs) (hj : ¬ j < 0) (hv : vs[j.toNatClampNeg]? = some v) : Rch l Z n0 R y bytes mx rt D h k n (pc + 1) Ls (v :: st) := by
  obtain ⟨c, A, e, hi⟩ := A.inb hj (List.getElem?_eq_some_iff.mp hv).1
  exact r.go fun X hx b hZ _ eT t q => X.iaload hx (j := j) (v := v) (by rw [eT]; exact A.1) (State.isArrayOf_alike hZ.alike A.2.1) A.2.2 hi (by rw [e]; simpa using hv) (g := mkF _ pc Ls (.int j :: .ref a :: st)) rfl rfl (hb b hd) t q
theorem laload {a : Addr} {vs : List Value} {j : Int32} {v : Value} (r : Rch l Z n0 R y bytes mx rt D h k n pc Ls (.int j :: .ref a :: st)) (hd : decode bytes pc = .ok (.laload, 1)) (A : VA Z h a .long vs) (hj : ¬ j < 0) (hv : vs[j.toNatClampNeg]? = some v) : Rch l Z n0 R y bytes mx rt D h k n (pc + 1) Ls (v :: st) := by
  obtain ⟨c, A, e, hi⟩ := A.inb hj (List.getElem?_eq_some_iff.mp hv).1
  exact r.go fun X hx b hZ _ eT t q => X.laload hx (j := j) (v := v) (by rw [eT]; exact A.1) (State.isArrayOf_alike hZ.alike A.2.1) A.2.2 hi (by rw [e]; simpa using hv) (g := mkF _ pc Ls (.int j :: .ref a :: st)) rfl rfl (hb b hd) t q
theorem caload {a : Addr} {vs : List Value} {j : Int32} {v : Value} (r : Rch l Z n0 R y bytes mx rt D h k n pc Ls (.int j :: .ref a :: st)) (hd : decode bytes pc = .ok (.caload, 1)) (A : VA Z h a .char vs) (hj : ¬ j < 0) (hv : vs[j.toNatClampNeg]? = some v) : Rch l Z n0 R y bytes mx rt D h k n (pc + 1) Ls (v :: st) := by
  obtain ⟨c, A, e, hi⟩ := A.inb hj (List.getElem?_eq_some_iff.mp hv).1
  exact r.go fun X hx b hZ _ eT t q => X.caload hx (j := j) (v := v) (by rw [eT]; exact A.1) (State.isArrayOf_alike hZ.alike A.2.1) A.2.2 hi (by rw [e]; simpa using hv) (g := mkF _ pc Ls (.int j :: .ref a :: st)) rfl rfl (hb b hd) t q
theorem baload {a : Addr} {vs : List Value} {j : Int32} {v : Value} (r : Rch l Z n0 R y bytes mx rt D h k n pc Ls (.int j :: .ref a :: st)) (hd : decode bytes pc = .ok (.baload, 1)) (A : VA Z h a .byte vs) (hj : ¬ j < 0) (hv : vs[j.toNatClampNeg]? = some v) : Rch l Z n0 R y bytes mx rt D h k n (pc + 1) Ls (v :: st) := by
  obtain ⟨c, A, e, hi⟩ := A.inb hj (List.getElem?_eq_some_iff.mp hv).1
  exact r.go fun X hx b hZ _ eT t q => X.baloadBytes hx (j := j) (v := v) (by rw [eT]; exact A.1) (State.isArrayOf_alike hZ.alike A.2.1) A.2.2 hi (by rw [e]; simpa using hv) (g := mkF _ pc Ls (.int j :: .ref a :: st)) rfl rfl (hb b hd) t q
theorem zaload {a : Addr} {vs : List Value} {j : Int32} {v : Value} (r : Rch l Z n0 R y bytes mx rt D h k n pc Ls (.int j :: .ref a :: st)) (hd : decode bytes pc = .ok (.baload, 1)) (A : VA Z h a .boolean vs) (hj : ¬ j < 0) (hv : vs[j.toNatClampNeg]? = some v) : Rch l Z n0 R y bytes mx rt D h k n (pc + 1) Ls (v :: st) := by
  obtain ⟨c, A, e, hi⟩ := A.inb hj (List.getElem?_eq_some_iff.mp hv).1
  exact r.go fun X hx b hZ _ eT t q => X.baloadBooleans hx (j := j) (v := v) (by rw [eT]; exact A.1) (State.isArrayOf_alike hZ.alike A.2.1) A.2.2 hi (by rw [e]; simpa using hv) (g := mkF _ pc Ls (.int j :: .ref a :: st)) rfl rfl (hb b hd) t q
theorem iastore {a : Addr} {vs : List Value} {j : Int32} {x : Int32} (r : Rch l Z n0 R y bytes mx rt D h k n pc Ls (.int x :: .int j :: .ref a :: st)) (hd : decode bytes pc = .ok (.iastore, 1)) (A : VA Z h a .int vs) (hj : ¬ j < 0) (hlt : j.toNatClampNeg < vs.length) (hg : n0 ≤ a) :
    ∃ h', (Wr h h' a j.toNatClampNeg (.int x) ∧ VA Z h' a .int (vs.set j.toNatClampNeg (.int x))) ∧ Rch l Z n0 R y bytes mx rt D h' k n (pc + 1) Ls st :=
  r.mv (P := fun h' => Wr h h' a j.toNatClampNeg (.int x) ∧ VA Z h' a .int (vs.set j.toNatClampNeg (.int x))) (st' := fun _ => st) fun X hx b _ _ hZ ho eT N => by
    obtain ⟨c, A', e, hi⟩ := A.inb hj hlt
    obtain ⟨T', h', X', e', W, s'⟩ := stI X hx hZ eT A' (j := j) hi (g := mkF _ pc Ls (.int x :: .int j :: .ref a :: st)) rfl rfl (hb b hd)
    exact ⟨T', h', _, X', e', ⟨W, A.set W⟩, Fr.snoc X' N hg, s' _ (Steps.refl _)⟩
theorem lastore {a : Addr} {vs : List Value} {j : Int32} {x : Int64} (r : Rch l Z n0 R y bytes mx rt D h k n pc Ls (.long x :: .int j :: .ref a :: st)) (hd : decode bytes pc = .ok (.lastore, 1)) (A : VA Z h a .long vs) (hj : ¬ j < 0) (hlt : j.toNatClampNeg < vs.length) (hg : n0 ≤ a) :
    ∃ h', (Wr h h' a j.toNatClampNeg (.long x) ∧ VA Z h' a .long (vs.set j.toNatClampNeg (.long x))) ∧ Rch l Z n0 R y bytes mx rt D h' k n (pc + 1) Ls st :=
  r.mv (P := fun h' => Wr h h' a j.toNatClampNeg (.long x) ∧ VA Z h' a .long (vs.set j.toNatClampNeg (.long x))) (st' := fun _ => st) fun X hx b _ _ hZ ho eT N => by
    obtain ⟨c, A', e, hi⟩ := A.inb hj hlt
    obtain ⟨T', h', X', e', W, s'⟩ := stJ X hx hZ eT A' (j := j) hi (g := mkF _ pc Ls (.long x :: .int j :: .ref a :: st)) rfl rfl (hb b hd)
    exact ⟨T', h', _, X', e', ⟨W, A.set W⟩, Fr.snoc X' N hg, s' _ (Steps.refl _)⟩
theorem castore {a : Addr} {vs : List Value} {j : Int32} {x : Int32} (r : Rch l Z n0 R y bytes mx rt D h k n pc Ls (.int x :: .int j :: .ref a :: st)) (hd : decode bytes pc = .ok (.castore, 1)) (A : VA Z h a .char vs) (hj : ¬ j < 0) (hlt : j.toNatClampNeg < vs.length) (hg : n0 ≤ a) :
    ∃ h', (Wr h h' a j.toNatClampNeg (.int (nar .char x)) ∧ VA Z h' a .char (vs.set j.toNatClampNeg (.int (nar .char x)))) ∧ Rch l Z n0 R y bytes mx rt D h' k n (pc + 1) Ls st :=
  r.mv (P := fun h' => Wr h h' a j.toNatClampNeg (.int (nar .char x)) ∧ VA Z h' a .char (vs.set j.toNatClampNeg (.int (nar .char x)))) (st' := fun _ => st) fun X hx b _ _ hZ ho eT N => by
    obtain ⟨c, A', e, hi⟩ := A.inb hj hlt
    obtain ⟨T', h', X', e', W, s'⟩ := stC X hx hZ eT A' (j := j) hi (g := mkF _ pc Ls (.int x :: .int j :: .ref a :: st)) rfl rfl (hb b hd)
    exact ⟨T', h', _, X', e', ⟨W, A.set W⟩, Fr.snoc X' N hg, s' _ (Steps.refl _)⟩
theorem bastore {a : Addr} {vs : List Value} {j : Int32} {x : Int32} (r : Rch l Z n0 R y bytes mx rt D h k n pc Ls (.int x :: .int j :: .ref a :: st)) (hd : decode bytes pc = .ok (.bastore, 1)) (A : VA Z h a .byte vs) (hj : ¬ j < 0) (hlt : j.toNatClampNeg < vs.length) (hg : n0 ≤ a) :
    ∃ h', (Wr h h' a j.toNatClampNeg (.int (nar .byte x)) ∧ VA Z h' a .byte (vs.set j.toNatClampNeg (.int (nar .byte x)))) ∧ Rch l Z n0 R y bytes mx rt D h' k n (pc + 1) Ls st :=
  r.mv (P := fun h' => Wr h h' a j.toNatClampNeg (.int (nar .byte x)) ∧ VA Z h' a .byte (vs.set j.toNatClampNeg (.int (nar .byte x)))) (st' := fun _ => st) fun X hx b _ _ hZ ho eT N => by
    obtain ⟨c, A', e, hi⟩ := A.inb hj hlt
    obtain ⟨T', h', X', e', W, s'⟩ := stB X hx hZ eT A' (j := j) hi (g := mkF _ pc Ls (.int x :: .int j :: .ref a :: st)) rfl rfl (hb b hd)
    exact ⟨T', h', _, X', e', ⟨W, A.set W⟩, Fr.snoc X' N hg, s' _ (Steps.refl _)⟩
theorem zastore {a : Addr} {vs : List Value} {j : Int32} {x : Int32} (r : Rch l Z n0 R y bytes mx rt D h k n pc Ls (.int x :: .int j :: .ref a :: st)) (hd : decode bytes pc = .ok (.bastore, 1)) (A : VA Z h a .boolean vs) (hj : ¬ j < 0) (hlt : j.toNatClampNeg < vs.length) (hg : n0 ≤ a) :
    ∃ h', (Wr h h' a j.toNatClampNeg (.int (nar .boolean x)) ∧ VA Z h' a .boolean (vs.set j.toNatClampNeg (.int (nar .boolean x)))) ∧ Rch l Z n0 R y bytes mx rt D h' k n (pc + 1) Ls st :=
  r.mv (P := fun h' => Wr h h' a j.toNatClampNeg (.int (nar .boolean x)) ∧ VA Z h' a .boolean (vs.set j.toNatClampNeg (.int (nar .boolean x)))) (st' := fun _ => st) fun X hx b _ _ hZ ho eT N => by
    obtain ⟨c, A', e, hi⟩ := A.inb hj hlt
    obtain ⟨T', h', X', e', W, s'⟩ := stZ X hx hZ eT A' (j := j) hi (g := mkF _ pc Ls (.int x :: .int j :: .ref a :: st)) rfl rfl (hb b hd)
    exact ⟨T', h', _, X', e', ⟨W, A.set W⟩, Fr.snoc X' N hg, s' _ (Steps.refl _)⟩
/-! the end -/
theorem Rch.ret0 (r : Rch l Z n0 R y bytes mx none D h k n pc Ls []) (hd : decode bytes pc = .ok (.return_, 1)) : Don l Z n0 R D h k n none := by
  obtain ⟨p, e, s, m, args, below, meth, c, s₁, g0⟩ := D
  obtain ⟨⟨hx, hbb, hml, ho, hZ, hr, hlk, hnm⟩, T, locs, X, eT, N, hs⟩ := r
  obtain ⟨fs, hl, hrun, hended, hW, hsame⟩ := X.leave (v := none) (fun _ => rfl) hlk
  exact ⟨T, locs, fs, X, eT, N, hs.trans (X.returnOut hx hr (hb hbb hd) hl), eT, hrun, hended, hW, hsame⟩
theorem Rch.retV {i : Instr} {t : FieldType} {w : Value} (r : Rch l Z n0 R y bytes mx (some t) D h k n pc Ls (w :: st)) (hd : decode bytes pc = .ok (i, 1)) (hn : narrow t w = w)
    (hi : (i = .ireturn ∧ (t = .int ∨ t = .boolean ∨ t = .byte ∨ t = .char ∨ t = .short) ∧ ∃ z, w = .int z) ∨ (i = .lreturn ∧ t = .long ∧ ∃ z, w = .long z) ∨ (i = .dreturn ∧ t = .double ∧ ∃ z, w = .double z) ∨ (i = .freturn ∧ t = .float ∧ ∃ z, w = .float z) ∨ (i = .areturn ∧ t.isReference = true ∧ w.isRef = true)) : Don l Z n0 R D h k n (some w) := by
  obtain ⟨p, e, s, m, args, below, meth, c, s₁, g0⟩ := D
  obtain ⟨⟨hx, hbb, hml, ho, hZ, hr, hlk, hnm⟩, T, locs, X, eT, N, hs⟩ := r
  obtain ⟨fs, hl, hrun, hended, hW, hsame⟩ := X.leave (v := some w) (fun q => by rw [hr] at q; cases q) hlk
  exact ⟨T, locs, fs, X, eT, N, hs.trans (retOut X hx hr hn hi (hb hbb hd) hl), eT, hrun, hended, hW, hsame⟩
theorem Rch.retI {z : Int32} (r : Rch l Z n0 R y bytes mx (some .int) D h k n pc Ls (.int z :: st)) (hd : decode bytes pc = .ok (.ireturn, 1)) : Don l Z n0 R D h k n (some (.int z)) := r.retV hd rfl (Or.inl ⟨rfl, Or.inl rfl, z, rfl⟩)
theorem Rch.retJ {z : Int64} (r : Rch l Z n0 R y bytes mx (some .long) D h k n pc Ls (.long z :: st)) (hd : decode bytes pc = .ok (.lreturn, 1)) : Don l Z n0 R D h k n (some (.long z)) := r.retV hd rfl (Or.inr (Or.inl ⟨rfl, rfl, z, rfl⟩))
theorem Rch.retZ {z : Int32} (r : Rch l Z n0 R y bytes mx (some .boolean) D h k n pc Ls (.int z :: st)) (hd : decode bytes pc = .ok (.ireturn, 1)) (hz : z &&& 1 = z) : Don l Z n0 R D h k n (some (.int z)) := r.retV hd (congrArg Value.int hz) (Or.inl ⟨rfl, Or.inr (Or.inl rfl), z, rfl⟩)
theorem Rch.retB {z : Int32} (r : Rch l Z n0 R y bytes mx (some .byte) D h k n pc Ls (.int z :: st)) (hd : decode bytes pc = .ok (.ireturn, 1)) (hz : z.toInt8.toInt32 = z) : Don l Z n0 R D h k n (some (.int z)) := r.retV hd (congrArg Value.int hz) (Or.inl ⟨rfl, Or.inr (Or.inr (Or.inl rfl)), z, rfl⟩)
theorem Rch.retA {t : FieldType} {w : Value} (r : Rch l Z n0 R y bytes mx (some t) D h k n pc Ls (w :: st)) (hd : decode bytes pc = .ok (.areturn, 1)) (ht : t.isReference = true) (hw : w.isRef = true) : Don l Z n0 R D h k n (some w) := r.retV hd (by rcases ref_cases hw with rfl | ⟨q, rfl⟩ <;> cases t <;> first | rfl | cases ht) (Or.inr (Or.inr (Or.inr (Or.inr ⟨rfl, ht, hw⟩))))
theorem Don.more {v : Option Value} (r : Don l Z n0 R D h k n v) {k' n' : Nat} (hk : k ≤ k') (hn : n ≤ n') : Don l Z n0 R D h k' n' v := by
  obtain ⟨p, e, s, m, args, below, meth, c, s₁, g0⟩ := D
  obtain ⟨T, locs, fs, X, eT, N, hs, hh, hrun, hend, hW, hsame⟩ := r
  exact ⟨T, locs, fs, X.more hk hn, eT, N, hs, hh, hrun, hend, hW, hsame.mono hk hn⟩
/-! calls -/
section Calls
variable {index : Nat} {y' : MethodName} {bytes' : ByteArray} {mx' : Nat} {rt' : Option FieldType} {rm : Room} {as' : Array Value} {Q : Option Value → Heap → Prop} {W : Nat} {rest : List Value}
theorem callS (argsL : List Value) (r : Rch l Z n0 R y bytes mx rt D h k n pc Ls st) (hd : decode bytes pc = .ok (.invokestatic index, 3)) (K : Con l Z n0 y' bytes' mx' rt' rm as' h Q) (w1 : (Jvm.Cond.methodLink y.cls index y').before a0 Z = true) (w2 : (Jvm.Cond.static y').before a0 Z = true) (w3 : (Jvm.Cond.initialized y'.cls).before a0 Z = true) (w4 : (Jvm.Cond.code y' bytes' mx' rt').before a0 Z = true)
    (hlen : ∀ sig, parseMethodDescriptor y'.desc = some sig → argsL.length = sig.parameters.length) (has : argsL.toArray = as') (hst : st = argsL.reverse ++ rest) (hW : (rest.map fun v => v.category).sum ≤ W) (hsz : Ls.size = mx) (hy : y'.cls ≠ "java/lang/invoke/MethodHandle" ∧ y'.cls ≠ "java/lang/invoke/VarHandle") (hf : rm.frames + 1 ≤ R.frames) (hlo : W + (mx' + 11) + rm.locals ≤ R.locals) (hc : k + rm.cells ≤ R.cells) (hs : n + rm.slots ≤ R.slots) :
    ∃ v h', Q v h' ∧ Rch l Z n0 R y bytes mx rt D h' (k + rm.cells) (n + rm.slots) (pc + 3) Ls (v.toList ++ rest) := by
  obtain ⟨p, e, s, m, args, below, meth, c, s₁, g0⟩ := D
  obtain ⟨hB, T, locs, X, eT, N, hs0⟩ := r
  obtain ⟨hx, hbb, hml, ho, hZ, hr, hlk, hnm⟩ := id hB
  subst hst
  obtain ⟨v, vm₁, ⟨T', L', k', n'⟩, -, X', ⟨Lc, ⟨N', hQ⟩, l1, y1, z1⟩, s'⟩ := Jvm.LawKit.callS X hx (y := y') ho (mvT hZ w1) (mvT hZ w2) (mvT hZ w3) (mvT hZ w4) hy (backOf (W := W) (Q := fun v h L => Fr n0 L ∧ Q v h) (K []) hZ w4 w3 hf hlo) (g := mkF m pc Ls (argsL.reverse ++ rest)) rfl (hsz.trans hml.symm) (argsL := argsL) (rest := rest) hlen rfl (by show 2 * 0 + _ ≤ _; omega) (hb hbb hd) (fun _ _ => ⟨has, eT, hc, hs⟩)
  dsimp only [Pt.U, Pt.locs, Pt.cells, Pt.slots] at X' l1 y1 z1 s' hQ
  subst l1 y1 z1
  exact ⟨v, T'.heap, hQ, hB, T', _, X', rfl, Fr.app N N', hs0.trans (s' _ (Steps.refl _))⟩
theorem callI {a : Addr} (argsL : List Value) (r : Rch l Z n0 R y bytes mx rt D h k n pc Ls st) (hd : decode bytes pc = .ok (.invokespecial index, 3)) (K : Con l Z n0 y' bytes' mx' none rm as' h Q) (w1 : (Jvm.Cond.methodLink y.cls index y').before a0 Z = true) (w2 : (Jvm.Cond.instanceMethod y').before a0 Z = true) (w3 : (Jvm.Cond.initialized y'.cls).before a0 Z = true) (w4 : (Jvm.Cond.code y' bytes' mx' none).before a0 Z = true) (hin : y'.name = "<init>")
    (hlen : ∀ sig, parseMethodDescriptor y'.desc = some sig → argsL.length = sig.parameters.length) (has : (.ref a :: argsL).toArray = as') (hst : st = argsL.reverse ++ .ref a :: rest) (hW : (rest.map fun v => v.category).sum ≤ W) (hsz : Ls.size = mx) (hy : y'.cls ≠ "java/lang/invoke/MethodHandle" ∧ y'.cls ≠ "java/lang/invoke/VarHandle") (hf : rm.frames + 1 ≤ R.frames) (hlo : W + (mx' + 11) + rm.locals ≤ R.locals) (hc : k + rm.cells ≤ R.cells) (hs : n + rm.slots ≤ R.slots) :
    ∃ v h', Q v h' ∧ Rch l Z n0 R y bytes mx rt D h' (k + rm.cells) (n + rm.slots) (pc + 3) Ls (v.toList ++ rest) := by
  obtain ⟨p, e, s, m, args, below, meth, c, s₁, g0⟩ := D
  obtain ⟨hB, T, locs, X, eT, N, hs0⟩ := r
  obtain ⟨hx, hbb, hml, ho, hZ, hr, hlk, hnm⟩ := id hB
  subst hst
  obtain ⟨v, vm₁, ⟨T', L', k', n'⟩, -, X', ⟨Lc, ⟨N', hQ⟩, l1, y1, z1⟩, s'⟩ := X.specialBack hx (y := y') hin ho (mvT hZ w1) (mvT hZ w2) (mvT hZ w4) hy (backOf (W := W) (Q := fun v h L => Fr n0 L ∧ Q v h) (K []) hZ w4 w3 hf hlo) (g := mkF m pc Ls (argsL.reverse ++ .ref a :: rest)) rfl (hsz.trans hml.symm) (Steps.refl _) (a := a) (argsL := argsL) (rest := rest) hlen rfl (by show 2 * 0 + _ ≤ _; omega) (hb hbb hd) (fun _ _ => ⟨has, eT, hc, hs⟩)
  dsimp only [Pt.U, Pt.locs, Pt.cells, Pt.slots] at X' l1 y1 z1 s' hQ
  subst l1 y1 z1
  exact ⟨v, T'.heap, hQ, hB, T', _, X', rfl, Fr.app N N', hs0.trans s'⟩
theorem callV {a : Addr} {yr : MethodName} {C : String} (argsL : List Value) (r : Rch l Z n0 R y bytes mx rt D h k n pc Ls st) (hd : decode bytes pc = .ok (.invokevirtual index, 3)) (K : Con l Z n0 y' bytes' mx' rt' rm as' h Q) (E : Exa Z h a C) (w1 : (Jvm.Cond.methodLink y.cls index yr).before a0 Z = true) (w2 : (Jvm.Cond.declares yr).before a0 Z = true) (nf : ∀ s : State, Z.Warmed39 s.vm → NotFace s yr) (w5 : (Jvm.Cond.selects C yr y').before a0 Z = true) (w6 : (Jvm.Cond.instanceMethod y').before a0 Z = true) (w3 : (Jvm.Cond.initialized y'.cls).before a0 Z = true) (w4 : (Jvm.Cond.code y' bytes' mx' rt').before a0 Z = true)
    (hlen : ∀ sig, parseMethodDescriptor yr.desc = some sig → argsL.length = sig.parameters.length) (has : (.ref a :: argsL).toArray = as') (hst : st = argsL.reverse ++ .ref a :: rest) (hW : (rest.map fun v => v.category).sum ≤ W) (hsz : Ls.size = mx) (hy : yr.cls ≠ "java/lang/invoke/MethodHandle" ∧ yr.cls ≠ "java/lang/invoke/VarHandle") (hf : rm.frames + 1 ≤ R.frames) (hlo : W + (mx' + 11) + rm.locals ≤ R.locals) (hc : k + rm.cells ≤ R.cells) (hs : n + rm.slots ≤ R.slots) :
    ∃ v h', Q v h' ∧ Rch l Z n0 R y bytes mx rt D h' (k + rm.cells) (n + rm.slots) (pc + 3) Ls (v.toList ++ rest) := by
  obtain ⟨p, e, s, m, args, below, meth, c, s₁, g0⟩ := D
  obtain ⟨hB, T, locs, X, eT, N, hs0⟩ := r
  obtain ⟨hx, hbb, hml, ho, hZ, hr, hlk, hnm⟩ := id hB
  subst hst
  obtain ⟨cq, kq, qa, qb, qc⟩ := isOf hZ eT E
  obtain ⟨v, vm₁, ⟨T', L', k', n'⟩, -, X', ⟨Lc, ⟨N', hQ⟩, l1, y1, z1⟩, s'⟩ := X.virtualBack hx (y := yr) (z := y') ho (mvT hZ w1) (mvT hZ w2) (nf s hZ) (mvT hZ w5) (mvT hZ w6) hy (backOf (W := W) (Q := fun v h L => Fr n0 L ∧ Q v h) (K []) hZ w4 w3 hf hlo) qa qc (g := mkF m pc Ls (argsL.reverse ++ .ref a :: rest)) rfl (hsz.trans hml.symm) (Steps.refl _) (argsL := argsL) (rest := rest) hlen rfl (by show 2 * 0 + _ ≤ _; omega) (hb hbb hd) (fun _ _ => ⟨has, eT, hc, hs⟩)
  dsimp only [Pt.U, Pt.locs, Pt.cells, Pt.slots] at X' l1 y1 z1 s' hQ
  subst l1 y1 z1
  exact ⟨v, T'.heap, hQ, hB, T', _, X', rfl, Fr.app N N', hs0.trans s'⟩
theorem nfS {yr : MethodName} {C : String} (w : (Jvm.Cond.selects C yr yr).before a0 Z = true) : ∀ s : State, Z.Warmed39 s.vm → NotFace s yr := fun s hZ => notFace_of_selects (args := #[]) (mvT hZ w)
theorem callP {a : Addr} {C : String} (argsL : List Value) (r : Rch l Z n0 R y bytes mx rt D h k n pc Ls st) (hd : decode bytes pc = .ok (.invokevirtual index, 3)) (K : Con l Z n0 y' bytes' mx' rt' rm as' h Q) (E : Exa Z h a C) (w1 : (Jvm.Cond.methodLink y.cls index y').before a0 Z = true) (w6 : (Jvm.Cond.instanceMethod y').before a0 Z = true) (w5 : (Jvm.Cond.selects y'.cls y' y').before a0 Z = true) (w7 : (Jvm.Cond.privateMethod y').before a0 Z = true) (w3 : (Jvm.Cond.initialized y'.cls).before a0 Z = true) (w4 : (Jvm.Cond.code y' bytes' mx' rt').before a0 Z = true)
    (hlen : ∀ sig, parseMethodDescriptor y'.desc = some sig → argsL.length = sig.parameters.length) (has : (.ref a :: argsL).toArray = as') (hst : st = argsL.reverse ++ .ref a :: rest) (hW : (rest.map fun v => v.category).sum ≤ W) (hsz : Ls.size = mx) (hy : y'.cls ≠ "java/lang/invoke/MethodHandle" ∧ y'.cls ≠ "java/lang/invoke/VarHandle") (hf : rm.frames + 1 ≤ R.frames) (hlo : W + (mx' + 11) + rm.locals ≤ R.locals) (hc : k + rm.cells ≤ R.cells) (hs : n + rm.slots ≤ R.slots) :
    ∃ v h', Q v h' ∧ Rch l Z n0 R y bytes mx rt D h' (k + rm.cells) (n + rm.slots) (pc + 3) Ls (v.toList ++ rest) := by
  obtain ⟨p, e, s, m, args, below, meth, c, s₁, g0⟩ := D
  obtain ⟨hB, T, locs, X, eT, N, hs0⟩ := r
  obtain ⟨hx, hbb, hml, ho, hZ, hr, hlk, hnm⟩ := id hB
  subst hst
  obtain ⟨cq, q1, q2⟩ := E.cell
  obtain ⟨v, vm₁, ⟨T', L', k', n'⟩, -, X', ⟨Lc, ⟨N', hQ⟩, l1, y1, z1⟩, s'⟩ := X.privateBack hx (y := y') ho (mvT hZ w1) (mvT hZ w6) (mvT hZ w5) (Cond.privateMethod_at (mvP hZ w7 (args := #[]))) (mvT hZ w4) hy (backOf (W := W) (Q := fun v h L => Fr n0 L ∧ Q v h) (K []) hZ w4 w3 hf hlo) (g := mkF m pc Ls (argsL.reverse ++ .ref a :: rest)) rfl (hsz.trans hml.symm) (Steps.refl _) (a := a) (by rw [eT]; exact q1) q2 (argsL := argsL) (rest := rest) hlen rfl (by show 2 * 0 + _ ≤ _; omega) (hb hbb hd) (fun _ _ => ⟨has, eT, hc, hs⟩)
  dsimp only [Pt.U, Pt.locs, Pt.cells, Pt.slots] at X' l1 y1 z1 s' hQ
  subst l1 y1 z1
  exact ⟨v, T'.heap, hQ, hB, T', _, X', rfl, Fr.app N N', hs0.trans s'⟩
end Calls
end Kit
end Jvm.Own

namespace Jvm.Pilot.@@N@@
open Jvm Jvm.ClassFile Sem Op Lib Jvm.Free Jvm.Stand Jvm.LawKit Jvm.RoadKit Bundle Jvm.Pilot.@@N@@.Jvm.D


def ICache (Z : State) : Prop := Sta Z Z.heap "java/lang/Integer$IntegerCache" "high" "I" (.int 127) ∧ ∃ ca cell, Sta Z Z.heap "java/lang/Integer$IntegerCache" "cache" "[Ljava/lang/Integer;" (.ref ca) ∧ Arr Z Z.heap ca cell (.object "java/lang/Integer") ∧
  ∀ w : Int32, ¬ w < (-128 : Int32) → ¬ (127 : Int32) < w → ∃ b, ¬ ((w + (128 : Int32)) < 0 ∨ cell.slots.size ≤ (w + (128 : Int32)).toNatClampNeg) ∧ cell.slots[(w + (128 : Int32)).toNatClampNeg]? = some (.ref b) ∧ Exa Z Z.heap b "java/lang/Integer"
theorem own_cache {s : State} {args : Array Value} (hs : ∀ w ∈ jdkStatics_1, w.before args s = true) (hw : ∀ d ∈ tables_1, d.before args s = true) : ICache s := by
  have e1 := Cond.eq_int (hs _ (List.mem_of_getElem? (i := 3) rfl)) (rfl : (Term.int 127).eval args s none [] s = some (.int 127))
  have S1 := Sta.start e1 (Or.inl (hs _ (List.mem_of_getElem? (i := 1) rfl)))
  have h4 := Cond.before_iff.mp (hs _ (List.mem_of_getElem? (i := 4) rfl))
  obtain ⟨ca, e2⟩ := arr_v h4
  have S2 := Sta.start e2 (Or.inr ⟨hw _ (List.mem_of_getElem? (i := 32) rfl), hs _ (List.mem_of_getElem? (i := 2) rfl)⟩)
  obtain ⟨cell, A⟩ := Arr.start e2 h4
  have hat : s.arrayAt? ca = some cell := A.fin (Vm.Alike.refl _)
  obtain ⟨hsz, hsize⟩ := Jvm.Free.IntBox.length_fwd (hs _ (List.mem_of_getElem? (i := 6) rfl)) e2 A.1 A.2.1 A.2.2
  have h256 : cell.slots.size = 256 := by
    have q := congrArg Int32.toInt hsize
    rw [len_toInt hsz] at q
    have : (256 : Int32).toInt = 256 := rfl
    omega
  have hall := Cond.all_elim e2 hat (Cond.before_iff.mp (hs _ (List.mem_of_getElem? (i := 7) rfl)))
  refine ⟨S1, ca, cell, S2, A, fun w h1 h2 => ?_⟩
  obtain ⟨hb, hlt⟩ := Jvm.Free.IntBox.place_ok w h1 h2
  have hj := hall _ (by rw [h256]; exact hlt)
  obtain ⟨hx, -⟩ := and_e hj
  obtain ⟨b, eb⟩ := exa_v hx
  have eC : (Term.static "java/lang/Integer$IntegerCache" "cache" "[Ljava/lang/Integer;").eval args s none [(w + (128 : Int32)).toNatClampNeg] s = some (.ref ca) := e2
  obtain ⟨hnn, hback⟩ := Jvm.Free.IntBox.place_nonneg _ hlt
  have eI : (Term.index 0).eval args s none [(w + (128 : Int32)).toNatClampNeg] s = some (.int ((w + (128 : Int32)).toNatClampNeg).toInt32) := rfl
  have eE := elem_f eC eI hat hnn
  rw [hback] at eE
  exact ⟨b, by rw [h256]; exact hb, eE.symm.trans eb, exa_at eb hx⟩
theorem own_notinst {Z : State} {a0 : Array Value} (hw : ∀ d ∈ tables_1, d.before a0 Z = true) : ∃ c t, Z.vm.findClass "java/lang/Integer" = some c ∧ Z.vm.findClass "com/example/ref_access_rules/refaccessrules/rule/VoteRange" = some t ∧ Z.vm.assignable c t = false := by
  obtain ⟨t, kt, t1, t2, t3, t4, -, -⟩ := Cond.instantiable_spec (hw _ (List.mem_of_getElem? (i := 8) rfl))
  obtain ⟨o, ko, o1, o2, o3, -, -⟩ := Cond.noSuperclass_spec (hw _ (List.mem_of_getElem? (i := 36) rfl))
  have hO : NS Z "java/lang/Object" "com/example/ref_access_rules/refaccessrules/rule/VoteRange" := by
    have ne := ids_ne o1 t1 (by decide)
    refine ⟨o, t, o1, t1, fun fuel => ?_⟩
    cases fuel with
    | zero => rfl
    | succ f => simp [Vm.isSubclassAux, ne, o2, o3]
  have hN := NS.step (hw _ (List.mem_of_getElem? (i := 35) rfl)) hO (by decide)
  have hI := NS.step (hw _ (List.mem_of_getElem? (i := 34) rfl)) hN (by decide)
  obtain ⟨c, t', c0, g0, n3⟩ := hI
  cases t1.symm.trans g0
  obtain ⟨p, k, kp, h1, h2, h3, h4, h5, -, h7⟩ := Cond.superclass_spec c0 (hw _ (List.mem_of_getElem? (i := 34) rfl))
  have ne := ids_ne c0 t1 (by decide)
  have hni : kt.isInterface = false := by
    cases q : kt.isInterface with
    | false => rfl
    | true => rw [q] at t4; simp at t4
  refine ⟨c, t, c0, t1, ?_⟩
  show Z.vm.assignableAux (255 + 1) c t = false
  simp [Vm.assignableAux, ne, h2, t2, h5, t3, hni, Vm.isSubclass, n3]

theorem d1_0 : decode jdk_29_method_69_code 0 = .ok (.iload_n 0, 1) := by decide +kernel
theorem d1_1 : decode jdk_29_method_69_code 1 = .ok (.iload_n 1, 1) := by decide +kernel
theorem d1_2 : decode jdk_29_method_69_code 2 = .ok (.if_icmp .gt 7, 3) := by decide +kernel
theorem d1_5 : decode jdk_29_method_69_code 5 = .ok (.iload_n 0, 1) := by decide +kernel
theorem d1_6 : decode jdk_29_method_69_code 6 = .ok (.goto 4, 3) := by decide +kernel
theorem d1_9 : decode jdk_29_method_69_code 9 = .ok (.iload_n 1, 1) := by decide +kernel
theorem d1_10 : decode jdk_29_method_69_code 10 = .ok (.ireturn, 1) := by decide +kernel
theorem pn_1 : plainFor (⟨"java/lang/Math", "min", "(II)I"⟩ : MethodName) = true := Jvm.Free.JP.mathPlain rfl (by decide +kernel)
theorem ef_1 (p0 : Int32) (p1 : Int32) (m : MethodId) : entryFrame m #[(.int p0), (.int p1)] 2 = mkF m 0 #[.val (.int p0), .val (.int p1)] [] := by first | (simp [entryFrame, mkF, argsToLocals, Value.category, maxLocals]; done) | rfl
abbrev R1 : Room := ({ frames := 0, cells := 0, slots := 0, locals := 0 } : Room)
abbrev A1 (l : Launch) (Z : State) (n0 : Nat) (D : Own.Dyn) := Own.Rch l Z n0 R1 (⟨"java/lang/Math", "min", "(II)I"⟩ : MethodName) jdk_29_method_69_code 2 (some .int) D
def S1 (p0 : Int32) (p1 : Int32) (w : Int32) : Prop := ∃ m1 : Int32, m1 = (if p1 < p0 then p1 else p0) ∧ w = m1
set_option maxRecDepth 65536 in
set_option maxHeartbeats 40000000 in
theorem c1 (l : Launch) (Z : State) (a0 : Array Value) (hw : ∀ d ∈ tables_1, d.before a0 Z = true) (n0 : Nat) (h : Heap) (Zs : n0 ≤ h.size) (p0 : Int32) (p1 : Int32)  :
    Own.Con l Z n0 (⟨"java/lang/Math", "min", "(II)I"⟩ : MethodName) jdk_29_method_69_code 2 (some .int) R1 #[(.int p0), (.int p1)] h (fun v h' => h = h' ∧ ∃ w : Int32, v = some (.int w) ∧ S1 p0 p1 w) := by
  refine Own.Con.enter pn_1 (ef_1 p0 p1) fun D r => ?_
  replace r : A1 l Z n0 D h 0 0 1 #[.val (.int p0), .val (.int p1)] [(.int p0)] := Own.iloadN r d1_0 rfl
  replace r : A1 l Z n0 D h 0 0 2 #[.val (.int p0), .val (.int p1)] [(.int p1), (.int p0)] := Own.iloadN r d1_1 rfl
  obtain ⟨m1, e_m1, r⟩ : ∃ (m1 : Int32), m1 = (if p1 < p0 then p1 else p0) ∧ A1 l Z n0 D h 0 0 10 #[.val (.int p0), .val (.int p1)] [(.int m1)] := by
    by_cases br2 : p1 < p0
    · skip
      replace r : A1 l Z n0 D h 0 0 9 #[.val (.int p0), .val (.int p1)] [] := Own.icmpYes r d1_2 (tlt br2).2.2.1 (by decide) (by decide)
      replace r : A1 l Z n0 D h 0 0 10 #[.val (.int p0), .val (.int p1)] [(.int p1)] := Own.iloadN r d1_9 rfl
      exact ⟨_, by rw [if_pos br2], r⟩
    · skip
      replace r : A1 l Z n0 D h 0 0 5 #[.val (.int p0), .val (.int p1)] [] := Own.icmpNo r d1_2 (flt br2).2.2.1
      replace r : A1 l Z n0 D h 0 0 6 #[.val (.int p0), .val (.int p1)] [(.int p0)] := Own.iloadN r d1_5 rfl
      replace r : A1 l Z n0 D h 0 0 10 #[.val (.int p0), .val (.int p1)] [(.int p0)] := Own.goto r d1_6 (by decide) (by decide)
      exact ⟨_, by rw [if_neg br2], r⟩
  exact ⟨_, _, (Own.Rch.retI r d1_10).more (by decide) (by decide), rfl, _, rfl, ⟨m1, e_m1, rfl⟩⟩
theorem d2_0 : decode jdk_29_method_65_code 0 = .ok (.iload_n 0, 1) := by decide +kernel
theorem d2_1 : decode jdk_29_method_65_code 1 = .ok (.iload_n 1, 1) := by decide +kernel
theorem d2_2 : decode jdk_29_method_65_code 2 = .ok (.if_icmp .lt 7, 3) := by decide +kernel
theorem d2_5 : decode jdk_29_method_65_code 5 = .ok (.iload_n 0, 1) := by decide +kernel
theorem d2_6 : decode jdk_29_method_65_code 6 = .ok (.goto 4, 3) := by decide +kernel
theorem d2_9 : decode jdk_29_method_65_code 9 = .ok (.iload_n 1, 1) := by decide +kernel
theorem d2_10 : decode jdk_29_method_65_code 10 = .ok (.ireturn, 1) := by decide +kernel
theorem pn_2 : plainFor (⟨"java/lang/Math", "max", "(II)I"⟩ : MethodName) = true := Jvm.Free.JP.mathPlain rfl (by decide +kernel)
theorem ef_2 (p0 : Int32) (p1 : Int32) (m : MethodId) : entryFrame m #[(.int p0), (.int p1)] 2 = mkF m 0 #[.val (.int p0), .val (.int p1)] [] := by first | (simp [entryFrame, mkF, argsToLocals, Value.category, maxLocals]; done) | rfl
abbrev R2 : Room := ({ frames := 0, cells := 0, slots := 0, locals := 0 } : Room)
abbrev A2 (l : Launch) (Z : State) (n0 : Nat) (D : Own.Dyn) := Own.Rch l Z n0 R2 (⟨"java/lang/Math", "max", "(II)I"⟩ : MethodName) jdk_29_method_65_code 2 (some .int) D
def S2 (p0 : Int32) (p1 : Int32) (w : Int32) : Prop := ∃ m1 : Int32, m1 = (if p0 < p1 then p1 else p0) ∧ w = m1
set_option maxRecDepth 65536 in
set_option maxHeartbeats 40000000 in
theorem c2 (l : Launch) (Z : State) (a0 : Array Value) (hw : ∀ d ∈ tables_1, d.before a0 Z = true) (n0 : Nat) (h : Heap) (Zs : n0 ≤ h.size) (p0 : Int32) (p1 : Int32)  :
    Own.Con l Z n0 (⟨"java/lang/Math", "max", "(II)I"⟩ : MethodName) jdk_29_method_65_code 2 (some .int) R2 #[(.int p0), (.int p1)] h (fun v h' => h = h' ∧ ∃ w : Int32, v = some (.int w) ∧ S2 p0 p1 w) := by
  refine Own.Con.enter pn_2 (ef_2 p0 p1) fun D r => ?_
  replace r : A2 l Z n0 D h 0 0 1 #[.val (.int p0), .val (.int p1)] [(.int p0)] := Own.iloadN r d2_0 rfl
  replace r : A2 l Z n0 D h 0 0 2 #[.val (.int p0), .val (.int p1)] [(.int p1), (.int p0)] := Own.iloadN r d2_1 rfl
  obtain ⟨m1, e_m1, r⟩ : ∃ (m1 : Int32), m1 = (if p0 < p1 then p1 else p0) ∧ A2 l Z n0 D h 0 0 10 #[.val (.int p0), .val (.int p1)] [(.int m1)] := by
    by_cases br2 : p0 < p1
    · skip
      replace r : A2 l Z n0 D h 0 0 9 #[.val (.int p0), .val (.int p1)] [] := Own.icmpYes r d2_2 (tlt br2).1 (by decide) (by decide)
      replace r : A2 l Z n0 D h 0 0 10 #[.val (.int p0), .val (.int p1)] [(.int p1)] := Own.iloadN r d2_9 rfl
      exact ⟨_, by rw [if_pos br2], r⟩
    · skip
      replace r : A2 l Z n0 D h 0 0 5 #[.val (.int p0), .val (.int p1)] [] := Own.icmpNo r d2_2 (flt br2).1
      replace r : A2 l Z n0 D h 0 0 6 #[.val (.int p0), .val (.int p1)] [(.int p0)] := Own.iloadN r d2_5 rfl
      replace r : A2 l Z n0 D h 0 0 10 #[.val (.int p0), .val (.int p1)] [(.int p0)] := Own.goto r d2_6 (by decide) (by decide)
      exact ⟨_, by rw [if_neg br2], r⟩
  exact ⟨_, _, (Own.Rch.retI r d2_10).more (by decide) (by decide), rfl, _, rfl, ⟨m1, e_m1, rfl⟩⟩

theorem own_irr (x : Int32) : ¬ x < x := by rw [Int32.lt_iff_toInt_lt]; omega
theorem own_le {a b lo hi : Int32} (h1 : S1 a b lo) (h2 : S2 a b hi) : ¬ hi < lo := by
  obtain ⟨m, e, rfl⟩ := h1; obtain ⟨m', e', rfl⟩ := h2
  subst e e'
  (repeat' split) <;> simp only [Int32.lt_iff_toInt_lt] at * <;> omega
theorem own_le1 {lo c hi : Int32} (h2 : S2 lo c hi) : ¬ hi < lo := by
  obtain ⟨m', e', rfl⟩ := h2
  subst e'
  (repeat' split) <;> simp only [Int32.lt_iff_toInt_lt] at * <;> omega
theorem own_le2 {hi c lo : Int32} (h2 : S1 hi c lo) : ¬ hi < lo := by
  obtain ⟨m', e', rfl⟩ := h2
  subst e'
  (repeat' split) <;> simp only [Int32.lt_iff_toInt_lt] at * <;> omega

theorem d3_0 : decode prog_41_method_1_code 0 = .ok (.aload_n 0, 1) := by decide +kernel
theorem d3_1 : decode prog_41_method_1_code 1 = .ok (.invokespecial 1, 3) := by decide +kernel
theorem d3_4 : decode prog_41_method_1_code 4 = .ok (.iload_n 1, 1) := by decide +kernel
theorem d3_5 : decode prog_41_method_1_code 5 = .ok (.iload_n 2, 1) := by decide +kernel
theorem d3_6 : decode prog_41_method_1_code 6 = .ok (.if_icmp .le 18, 3) := by decide +kernel
theorem d3_24 : decode prog_41_method_1_code 24 = .ok (.aload_n 0, 1) := by decide +kernel
theorem d3_25 : decode prog_41_method_1_code 25 = .ok (.iload_n 1, 1) := by decide +kernel
theorem d3_26 : decode prog_41_method_1_code 26 = .ok (.putfield 16, 3) := by decide +kernel
theorem d3_29 : decode prog_41_method_1_code 29 = .ok (.aload_n 0, 1) := by decide +kernel
theorem d3_30 : decode prog_41_method_1_code 30 = .ok (.iload_n 2, 1) := by decide +kernel
theorem d3_31 : decode prog_41_method_1_code 31 = .ok (.putfield 22, 3) := by decide +kernel
theorem d3_34 : decode prog_41_method_1_code 34 = .ok (.return_, 1) := by decide +kernel
theorem pn_3 : plainFor (⟨"com/example/ref_access_rules/refaccessrules/rule/VoteRange", "<init>", "(II)V"⟩ : MethodName) = true := plainFor_of_name (by first | (simp [plainName, overriddenIn, x]; done) | decide +kernel)
theorem ef_3 (a0_ : Addr) (p1 : Int32) (p2 : Int32) (m : MethodId) : entryFrame m #[(.ref a0_), (.int p1), (.int p2)] 3 = mkF m 0 #[.val (.ref a0_), .val (.int p1), .val (.int p2)] [] := by first | (simp [entryFrame, mkF, argsToLocals, Value.category, maxLocals]; done) | rfl
abbrev R3 : Room := ({ frames := 1, cells := 0, slots := 0, locals := 12 } : Room)
abbrev A3 (l : Launch) (Z : State) (n0 : Nat) (D : Own.Dyn) := Own.Rch l Z n0 R3 (⟨"com/example/ref_access_rules/refaccessrules/rule/VoteRange", "<init>", "(II)V"⟩ : MethodName) prog_41_method_1_code 3 none D
set_option maxRecDepth 65536 in
set_option maxHeartbeats 40000000 in
theorem c3 (l : Launch) (Z : State) (a0 : Array Value) (hw : ∀ d ∈ tables_1, d.before a0 Z = true) (n0 : Nat) (h : Heap) (Zs : n0 ≤ h.size) (a0_ : Addr) (p1 : Int32) (p2 : Int32) (u_min : Value) (u_max : Value) (F_min_a0_ : Fld Z h a0_ "com/example/ref_access_rules/refaccessrules/rule/VoteRange" "min" "I" u_min) (F_max_a0_ : Fld Z h a0_ "com/example/ref_access_rules/refaccessrules/rule/VoteRange" "max" "I" u_max) (X_a0_ : Exa Z h a0_ "com/example/ref_access_rules/refaccessrules/rule/VoteRange") (ge_a0_ : n0 ≤ a0_) (hle : ¬ p2 < p1) :
    Own.Con l Z n0 (⟨"com/example/ref_access_rules/refaccessrules/rule/VoteRange", "<init>", "(II)V"⟩ : MethodName) prog_41_method_1_code 3 none R3 #[(.ref a0_), (.int p1), (.int p2)] h (fun v h' => v = none ∧ Keep h h' [a0_] ∧ Exa Z h' a0_ "com/example/ref_access_rules/refaccessrules/rule/VoteRange" ∧ Fld Z h' a0_ "com/example/ref_access_rules/refaccessrules/rule/VoteRange" "min" "I" (.int p1) ∧ Fld Z h' a0_ "com/example/ref_access_rules/refaccessrules/rule/VoteRange" "max" "I" (.int p2)) := by
  refine Own.Con.enter pn_3 (ef_3 a0_ p1 p2) fun D r => ?_
  have K : Keep h h [a0_] := Keep.refl _ _
  replace r : A3 l Z n0 D h 0 0 1 #[.val (.ref a0_), .val (.int p1), .val (.int p2)] [(.ref a0_)] := Own.aloadN r d3_0 rfl rfl
  replace r : A3 l Z n0 D h 0 0 4 #[.val (.ref a0_), .val (.int p1), .val (.int p2)] [] := Own.initObj r d3_1 (hw _ (List.mem_of_getElem? (i := 13) rfl)) (hw _ (List.mem_of_getElem? (i := 14) rfl)) (hw _ (List.mem_of_getElem? (i := 15) rfl)) rfl (by decide) (W := 0) (Nat.le_of_eq rfl) (by decide)
  replace r : A3 l Z n0 D h 0 0 5 #[.val (.ref a0_), .val (.int p1), .val (.int p2)] [(.int p1)] := Own.iloadN r d3_4 rfl
  replace r : A3 l Z n0 D h 0 0 6 #[.val (.ref a0_), .val (.int p1), .val (.int p2)] [(.int p2), (.int p1)] := Own.iloadN r d3_5 rfl
  replace r : A3 l Z n0 D h 0 0 24 #[.val (.ref a0_), .val (.int p1), .val (.int p2)] [] := Own.icmpYes r d3_6 (flt hle).2.2.2 (by decide) (by decide)
  replace r : A3 l Z n0 D h 0 0 25 #[.val (.ref a0_), .val (.int p1), .val (.int p2)] [(.ref a0_)] := Own.aloadN r d3_24 rfl rfl
  replace r : A3 l Z n0 D h 0 0 26 #[.val (.ref a0_), .val (.int p1), .val (.int p2)] [(.int p1), (.ref a0_)] := Own.iloadN r d3_25 rfl
  obtain ⟨h2, W1, r⟩ := Own.putfield r d3_26 (host := "") (Or.inl (hw _ (List.mem_of_getElem? (i := 16) rfl))) Via.refl F_min_a0_ X_a0_ (Or.inr ⟨(hw _ (List.mem_of_getElem? (i := 17) rfl)), rfl, rfl⟩) (hw _ (List.mem_of_getElem? (i := 8) rfl)) (ty := .int) (by decide) rfl rfl ge_a0_
  replace r : A3 l Z n0 D h2 0 0 29 #[.val (.ref a0_), .val (.int p1), .val (.int p2)] [] := r
  replace F_min_a0_ := F_min_a0_.same W1
  replace F_max_a0_ := F_max_a0_.other W1 (Or.inr (slot_ne (Or.inr (hw _ (List.mem_of_getElem? (i := 19) rfl))) (Or.inr (hw _ (List.mem_of_getElem? (i := 17) rfl))) (by decide) (t := .int) (t' := .int) (by decide) (by decide)))
  replace X_a0_ := X_a0_.wr W1
  replace Zs := Nat.le_trans Zs (Nat.le_of_eq W1.size.symm)
  replace K := K.wr W1 (Or.inl (by simp))
  replace r : A3 l Z n0 D h2 0 0 30 #[.val (.ref a0_), .val (.int p1), .val (.int p2)] [(.ref a0_)] := Own.aloadN r d3_29 rfl rfl
  replace r : A3 l Z n0 D h2 0 0 31 #[.val (.ref a0_), .val (.int p1), .val (.int p2)] [(.int p2), (.ref a0_)] := Own.iloadN r d3_30 rfl
  obtain ⟨h4, W3, r⟩ := Own.putfield r d3_31 (host := "") (Or.inl (hw _ (List.mem_of_getElem? (i := 18) rfl))) Via.refl F_max_a0_ X_a0_ (Or.inr ⟨(hw _ (List.mem_of_getElem? (i := 19) rfl)), rfl, rfl⟩) (hw _ (List.mem_of_getElem? (i := 8) rfl)) (ty := .int) (by decide) rfl rfl ge_a0_
  replace r : A3 l Z n0 D h4 0 0 34 #[.val (.ref a0_), .val (.int p1), .val (.int p2)] [] := r
  replace F_min_a0_ := F_min_a0_.other W3 (Or.inr (slot_ne (Or.inr (hw _ (List.mem_of_getElem? (i := 17) rfl))) (Or.inr (hw _ (List.mem_of_getElem? (i := 19) rfl))) (by decide) (t := .int) (t' := .int) (by decide) (by decide)))
  replace F_max_a0_ := F_max_a0_.same W3
  replace X_a0_ := X_a0_.wr W3
  replace Zs := Nat.le_trans Zs (Nat.le_of_eq W3.size.symm)
  replace K := K.wr W3 (Or.inl (by simp))
  exact ⟨_, _, (Own.Rch.ret0 r d3_34).more (by decide) (by decide), rfl, K, X_a0_, F_min_a0_, F_max_a0_⟩
theorem d5_0 : decode prog_41_method_6_code 0 = .ok (.aload_n 1, 1) := by decide +kernel
theorem d5_1 : decode prog_41_method_6_code 1 = .ok (.instanceof 17, 3) := by decide +kernel
theorem d5_4 : decode prog_41_method_6_code 4 = .ok (.ifCond .eq 34, 3) := by decide +kernel
theorem d5_7 : decode prog_41_method_6_code 7 = .ok (.aload_n 1, 1) := by decide +kernel
theorem d5_8 : decode prog_41_method_6_code 8 = .ok (.checkcast 17, 3) := by decide +kernel
theorem d5_11 : decode prog_41_method_6_code 11 = .ok (.astore_n 2, 1) := by decide +kernel
theorem d5_12 : decode prog_41_method_6_code 12 = .ok (.aload_n 0, 1) := by decide +kernel
theorem d5_13 : decode prog_41_method_6_code 13 = .ok (.getfield 16, 3) := by decide +kernel
theorem d5_16 : decode prog_41_method_6_code 16 = .ok (.aload_n 2, 1) := by decide +kernel
theorem d5_17 : decode prog_41_method_6_code 17 = .ok (.getfield 16, 3) := by decide +kernel
theorem d5_20 : decode prog_41_method_6_code 20 = .ok (.if_icmp .ne 18, 3) := by decide +kernel
theorem d5_23 : decode prog_41_method_6_code 23 = .ok (.aload_n 0, 1) := by decide +kernel
theorem d5_24 : decode prog_41_method_6_code 24 = .ok (.getfield 22, 3) := by decide +kernel
theorem d5_27 : decode prog_41_method_6_code 27 = .ok (.aload_n 2, 1) := by decide +kernel
theorem d5_28 : decode prog_41_method_6_code 28 = .ok (.getfield 22, 3) := by decide +kernel
theorem d5_31 : decode prog_41_method_6_code 31 = .ok (.if_icmp .ne 7, 3) := by decide +kernel
theorem d5_34 : decode prog_41_method_6_code 34 = .ok (.iconst 1, 1) := by decide +kernel
theorem d5_35 : decode prog_41_method_6_code 35 = .ok (.goto 4, 3) := by decide +kernel
theorem d5_38 : decode prog_41_method_6_code 38 = .ok (.iconst 0, 1) := by decide +kernel
theorem d5_39 : decode prog_41_method_6_code 39 = .ok (.ireturn, 1) := by decide +kernel
theorem pn_5 : plainFor (⟨"com/example/ref_access_rules/refaccessrules/rule/VoteRange", "equals", "(Ljava/lang/Object;)Z"⟩ : MethodName) = true := plainFor_of_name (by first | (simp [plainName, overriddenIn, x]; done) | decide +kernel)
theorem ef_5 (a0_ : Addr) (a1_ : Addr) (m : MethodId) : entryFrame m #[(.ref a0_), (.ref a1_)] 3 = mkF m 0 #[.val (.ref a0_), .val (.ref a1_), .unset] [] := by first | (simp [entryFrame, mkF, argsToLocals, Value.category, maxLocals]; done) | rfl
abbrev R5 : Room := ({ frames := 0, cells := 0, slots := 0, locals := 0 } : Room)
abbrev A5 (l : Launch) (Z : State) (n0 : Nat) (D : Own.Dyn) := Own.Rch l Z n0 R5 (⟨"com/example/ref_access_rules/refaccessrules/rule/VoteRange", "equals", "(Ljava/lang/Object;)Z"⟩ : MethodName) prog_41_method_6_code 3 (some .boolean) D
def S5 (n0_ : Int32) (x0_ : Int32) (n1_ : Int32) (x1_ : Int32) (w : Int32) : Prop := ∃ m1 : Int32, m1 = (if n0_ = n1_ then (if x0_ = x1_ then (1 : Int32) else (0 : Int32)) else (0 : Int32)) ∧ w = m1
set_option maxRecDepth 65536 in
set_option maxHeartbeats 40000000 in
theorem c5 (l : Launch) (Z : State) (a0 : Array Value) (hw : ∀ d ∈ tables_1, d.before a0 Z = true) (n0 : Nat) (h : Heap) (Zs : n0 ≤ h.size) (a0_ : Addr) (a1_ : Addr) (n0_ : Int32) (x0_ : Int32) (n1_ : Int32) (x1_ : Int32) (F_min_a0_ : Fld Z h a0_ "com/example/ref_access_rules/refaccessrules/rule/VoteRange" "min" "I" (.int n0_)) (F_max_a0_ : Fld Z h a0_ "com/example/ref_access_rules/refaccessrules/rule/VoteRange" "max" "I" (.int x0_)) (F_min_a1_ : Fld Z h a1_ "com/example/ref_access_rules/refaccessrules/rule/VoteRange" "min" "I" (.int n1_)) (F_max_a1_ : Fld Z h a1_ "com/example/ref_access_rules/refaccessrules/rule/VoteRange" "max" "I" (.int x1_)) (X_a1_ : Exa Z h a1_ "com/example/ref_access_rules/refaccessrules/rule/VoteRange") :
    Own.Con l Z n0 (⟨"com/example/ref_access_rules/refaccessrules/rule/VoteRange", "equals", "(Ljava/lang/Object;)Z"⟩ : MethodName) prog_41_method_6_code 3 (some .boolean) R5 #[(.ref a0_), (.ref a1_)] h (fun v h' => h = h' ∧ ∃ w : Int32, v = some (.int w) ∧ S5 n0_ x0_ n1_ x1_ w) := by
  refine Own.Con.enter pn_5 (ef_5 a0_ a1_) fun D r => ?_
  replace r : A5 l Z n0 D h 0 0 1 #[.val (.ref a0_), .val (.ref a1_), .unset] [(.ref a1_)] := Own.aloadN r d5_0 rfl rfl
  replace r : A5 l Z n0 D h 0 0 4 #[.val (.ref a0_), .val (.ref a1_), .unset] [(.int (1 : Int32))] := Own.instYes r d5_1 (hw _ (List.mem_of_getElem? (i := 25) rfl)) (Ins.self X_a1_)
  replace r : A5 l Z n0 D h 0 0 7 #[.val (.ref a0_), .val (.ref a1_), .unset] [] := Own.ifNo r d5_4 ((if0 _ _).trans (feq (by decide : ¬ ((1 : Int32) = (0 : Int32)))).1)
  replace r : A5 l Z n0 D h 0 0 8 #[.val (.ref a0_), .val (.ref a1_), .unset] [(.ref a1_)] := Own.aloadN r d5_7 rfl rfl
  replace r : A5 l Z n0 D h 0 0 11 #[.val (.ref a0_), .val (.ref a1_), .unset] [(.ref a1_)] := Own.castYes r d5_8 (hw _ (List.mem_of_getElem? (i := 25) rfl)) (Ins.self X_a1_)
  replace r : A5 l Z n0 D h 0 0 12 #[.val (.ref a0_), .val (.ref a1_), .val (.ref a1_)] [] := Own.astoreN r d5_11 rfl rfl
  replace r : A5 l Z n0 D h 0 0 13 #[.val (.ref a0_), .val (.ref a1_), .val (.ref a1_)] [(.ref a0_)] := Own.aloadN r d5_12 rfl rfl
  replace r : A5 l Z n0 D h 0 0 16 #[.val (.ref a0_), .val (.ref a1_), .val (.ref a1_)] [(.int n0_)] := Own.getfield r d5_13 (host := "") (Or.inl (hw _ (List.mem_of_getElem? (i := 16) rfl))) Via.refl F_min_a0_
  replace r : A5 l Z n0 D h 0 0 17 #[.val (.ref a0_), .val (.ref a1_), .val (.ref a1_)] [(.ref a1_), (.int n0_)] := Own.aloadN r d5_16 rfl rfl
  replace r : A5 l Z n0 D h 0 0 20 #[.val (.ref a0_), .val (.ref a1_), .val (.ref a1_)] [(.int n1_), (.int n0_)] := Own.getfield r d5_17 (host := "") (Or.inl (hw _ (List.mem_of_getElem? (i := 16) rfl))) Via.refl F_min_a1_
  obtain ⟨m1, e_m1, r⟩ : ∃ (m1 : Int32), m1 = (if n0_ = n1_ then (if x0_ = x1_ then (1 : Int32) else (0 : Int32)) else (0 : Int32)) ∧ A5 l Z n0 D h 0 0 39 #[.val (.ref a0_), .val (.ref a1_), .val (.ref a1_)] [(.int m1)] := by
    by_cases br2 : n0_ = n1_
    · skip
      replace r : A5 l Z n0 D h 0 0 23 #[.val (.ref a0_), .val (.ref a1_), .val (.ref a1_)] [] := Own.icmpNo r d5_20 (teq br2).2
      replace r : A5 l Z n0 D h 0 0 24 #[.val (.ref a0_), .val (.ref a1_), .val (.ref a1_)] [(.ref a0_)] := Own.aloadN r d5_23 rfl rfl
      replace r : A5 l Z n0 D h 0 0 27 #[.val (.ref a0_), .val (.ref a1_), .val (.ref a1_)] [(.int x0_)] := Own.getfield r d5_24 (host := "") (Or.inl (hw _ (List.mem_of_getElem? (i := 18) rfl))) Via.refl F_max_a0_
      replace r : A5 l Z n0 D h 0 0 28 #[.val (.ref a0_), .val (.ref a1_), .val (.ref a1_)] [(.ref a1_), (.int x0_)] := Own.aloadN r d5_27 rfl rfl
      replace r : A5 l Z n0 D h 0 0 31 #[.val (.ref a0_), .val (.ref a1_), .val (.ref a1_)] [(.int x1_), (.int x0_)] := Own.getfield r d5_28 (host := "") (Or.inl (hw _ (List.mem_of_getElem? (i := 18) rfl))) Via.refl F_max_a1_
      by_cases br3 : x0_ = x1_
      · skip
        replace r : A5 l Z n0 D h 0 0 34 #[.val (.ref a0_), .val (.ref a1_), .val (.ref a1_)] [] := Own.icmpNo r d5_31 (teq br3).2
        replace r : A5 l Z n0 D h 0 0 35 #[.val (.ref a0_), .val (.ref a1_), .val (.ref a1_)] [(.int (1 : Int32))] := Own.iconst r d5_34 rfl
        replace r : A5 l Z n0 D h 0 0 39 #[.val (.ref a0_), .val (.ref a1_), .val (.ref a1_)] [(.int (1 : Int32))] := Own.goto r d5_35 (by decide) (by decide)
        exact ⟨_, by rw [if_pos br2, if_pos br3], r⟩
      · skip
        replace r : A5 l Z n0 D h 0 0 38 #[.val (.ref a0_), .val (.ref a1_), .val (.ref a1_)] [] := Own.icmpYes r d5_31 (feq br3).2 (by decide) (by decide)
        replace r : A5 l Z n0 D h 0 0 39 #[.val (.ref a0_), .val (.ref a1_), .val (.ref a1_)] [(.int (0 : Int32))] := Own.iconst r d5_38 rfl
        exact ⟨_, by rw [if_pos br2, if_neg br3], r⟩
    · skip
      replace r : A5 l Z n0 D h 0 0 38 #[.val (.ref a0_), .val (.ref a1_), .val (.ref a1_)] [] := Own.icmpYes r d5_20 (feq br2).2 (by decide) (by decide)
      replace r : A5 l Z n0 D h 0 0 39 #[.val (.ref a0_), .val (.ref a1_), .val (.ref a1_)] [(.int (0 : Int32))] := Own.iconst r d5_38 rfl
      exact ⟨_, by rw [if_neg br2], r⟩
  exact ⟨_, _, (Own.Rch.retZ r d5_39 (by rw [e_m1]; (repeat' split) <;> rfl)).more (by decide) (by decide), rfl, _, rfl, ⟨m1, e_m1, rfl⟩⟩
theorem d5_0n : decode prog_41_method_6_code 0 = .ok (.aload_n 1, 1) := by decide +kernel
theorem d5_1n : decode prog_41_method_6_code 1 = .ok (.instanceof 17, 3) := by decide +kernel
theorem d5_4n : decode prog_41_method_6_code 4 = .ok (.ifCond .eq 34, 3) := by decide +kernel
theorem d5_38n : decode prog_41_method_6_code 38 = .ok (.iconst 0, 1) := by decide +kernel
theorem d5_39n : decode prog_41_method_6_code 39 = .ok (.ireturn, 1) := by decide +kernel
theorem pn_5n : plainFor (⟨"com/example/ref_access_rules/refaccessrules/rule/VoteRange", "equals", "(Ljava/lang/Object;)Z"⟩ : MethodName) = true := plainFor_of_name (by first | (simp [plainName, overriddenIn, x]; done) | decide +kernel)
theorem ef_5n (a0_ : Addr) (m : MethodId) : entryFrame m #[(.ref a0_), .null] 3 = mkF m 0 #[.val (.ref a0_), .val .null, .unset] [] := by first | (simp [entryFrame, mkF, argsToLocals, Value.category, maxLocals]; done) | rfl
abbrev R5n : Room := ({ frames := 0, cells := 0, slots := 0, locals := 0 } : Room)
abbrev A5n (l : Launch) (Z : State) (n0 : Nat) (D : Own.Dyn) := Own.Rch l Z n0 R5n (⟨"com/example/ref_access_rules/refaccessrules/rule/VoteRange", "equals", "(Ljava/lang/Object;)Z"⟩ : MethodName) prog_41_method_6_code 3 (some .boolean) D
def S5n  (w : Int32) : Prop := w = (0 : Int32)
set_option maxRecDepth 65536 in
set_option maxHeartbeats 40000000 in
theorem c5n (l : Launch) (Z : State) (a0 : Array Value) (hw : ∀ d ∈ tables_1, d.before a0 Z = true) (n0 : Nat) (h : Heap) (Zs : n0 ≤ h.size) (a0_ : Addr)  :
    Own.Con l Z n0 (⟨"com/example/ref_access_rules/refaccessrules/rule/VoteRange", "equals", "(Ljava/lang/Object;)Z"⟩ : MethodName) prog_41_method_6_code 3 (some .boolean) R5n #[(.ref a0_), .null] h (fun v h' => h = h' ∧ ∃ w : Int32, v = some (.int w) ∧ S5n  w) := by
  refine Own.Con.enter pn_5n (ef_5n a0_) fun D r => ?_
  replace r : A5n l Z n0 D h 0 0 1 #[.val (.ref a0_), .val .null, .unset] [.null] := Own.aloadN r d5_0n rfl rfl
  replace r : A5n l Z n0 D h 0 0 4 #[.val (.ref a0_), .val .null, .unset] [(.int (0 : Int32))] := Own.instNull r d5_1n
  replace r : A5n l Z n0 D h 0 0 38 #[.val (.ref a0_), .val .null, .unset] [] := Own.ifYes r d5_4n ((if0 _ _).trans (teq (by decide : (0 : Int32) = (0 : Int32))).1) (by decide) (by decide)
  replace r : A5n l Z n0 D h 0 0 39 #[.val (.ref a0_), .val .null, .unset] [(.int (0 : Int32))] := Own.iconst r d5_38n rfl
  exact ⟨_, _, (Own.Rch.retZ r d5_39n (by decide)).more (by decide) (by decide), rfl, _, rfl, rfl⟩
theorem d5_0i : decode prog_41_method_6_code 0 = .ok (.aload_n 1, 1) := by decide +kernel
theorem d5_1i : decode prog_41_method_6_code 1 = .ok (.instanceof 17, 3) := by decide +kernel
theorem d5_4i : decode prog_41_method_6_code 4 = .ok (.ifCond .eq 34, 3) := by decide +kernel
theorem d5_38i : decode prog_41_method_6_code 38 = .ok (.iconst 0, 1) := by decide +kernel
theorem d5_39i : decode prog_41_method_6_code 39 = .ok (.ireturn, 1) := by decide +kernel
theorem pn_5i : plainFor (⟨"com/example/ref_access_rules/refaccessrules/rule/VoteRange", "equals", "(Ljava/lang/Object;)Z"⟩ : MethodName) = true := plainFor_of_name (by first | (simp [plainName, overriddenIn, x]; done) | decide +kernel)
theorem ef_5i (a0_ : Addr) (a1_ : Addr) (m : MethodId) : entryFrame m #[(.ref a0_), (.ref a1_)] 3 = mkF m 0 #[.val (.ref a0_), .val (.ref a1_), .unset] [] := by first | (simp [entryFrame, mkF, argsToLocals, Value.category, maxLocals]; done) | rfl
abbrev R5i : Room := ({ frames := 0, cells := 0, slots := 0, locals := 0 } : Room)
abbrev A5i (l : Launch) (Z : State) (n0 : Nat) (D : Own.Dyn) := Own.Rch l Z n0 R5i (⟨"com/example/ref_access_rules/refaccessrules/rule/VoteRange", "equals", "(Ljava/lang/Object;)Z"⟩ : MethodName) prog_41_method_6_code 3 (some .boolean) D
def S5i  (w : Int32) : Prop := w = (0 : Int32)
set_option maxRecDepth 65536 in
set_option maxHeartbeats 40000000 in
theorem c5i (l : Launch) (Z : State) (a0 : Array Value) (hw : ∀ d ∈ tables_1, d.before a0 Z = true) (n0 : Nat) (h : Heap) (Zs : n0 ≤ h.size) (a0_ : Addr) (a1_ : Addr) (X_a1_ : Exa Z h a1_ "java/lang/Integer") :
    Own.Con l Z n0 (⟨"com/example/ref_access_rules/refaccessrules/rule/VoteRange", "equals", "(Ljava/lang/Object;)Z"⟩ : MethodName) prog_41_method_6_code 3 (some .boolean) R5i #[(.ref a0_), (.ref a1_)] h (fun v h' => h = h' ∧ ∃ w : Int32, v = some (.int w) ∧ S5i  w) := by
  refine Own.Con.enter pn_5i (ef_5i a0_ a1_) fun D r => ?_
  replace r : A5i l Z n0 D h 0 0 1 #[.val (.ref a0_), .val (.ref a1_), .unset] [(.ref a1_)] := Own.aloadN r d5_0i rfl rfl
  replace r : A5i l Z n0 D h 0 0 4 #[.val (.ref a0_), .val (.ref a1_), .unset] [(.int (0 : Int32))] := Own.instNo r d5_1i (hw _ (List.mem_of_getElem? (i := 25) rfl)) X_a1_ (own_notinst hw)
  replace r : A5i l Z n0 D h 0 0 38 #[.val (.ref a0_), .val (.ref a1_), .unset] [] := Own.ifYes r d5_4i ((if0 _ _).trans (teq (by decide : (0 : Int32) = (0 : Int32))).1) (by decide) (by decide)
  replace r : A5i l Z n0 D h 0 0 39 #[.val (.ref a0_), .val (.ref a1_), .unset] [(.int (0 : Int32))] := Own.iconst r d5_38i rfl
  exact ⟨_, _, (Own.Rch.retZ r d5_39i (by decide)).more (by decide) (by decide), rfl, _, rfl, rfl⟩
theorem d8_0 : decode jdk_18_method_1_code 0 = .ok (.aload_n 0, 1) := by decide +kernel
theorem d8_1 : decode jdk_18_method_1_code 1 = .ok (.invokespecial 1, 3) := by decide +kernel
theorem d8_4 : decode jdk_18_method_1_code 4 = .ok (.return_, 1) := by decide +kernel
theorem pn_8 : plainFor (⟨"java/lang/Number", "<init>", "()V"⟩ : MethodName) = true := plainFor_of_name (by first | (simp [plainName, overriddenIn, x]; done) | decide +kernel)
theorem ef_8 (a0 : Addr) (m : MethodId) : entryFrame m #[(.ref a0)] 1 = mkF m 0 #[.val (.ref a0)] [] := by first | (simp [entryFrame, mkF, argsToLocals, Value.category, maxLocals]; done) | rfl
abbrev R8 : Room := ({ frames := 1, cells := 0, slots := 0, locals := 12 } : Room)
abbrev A8 (l : Launch) (Z : State) (n0 : Nat) (D : Own.Dyn) := Own.Rch l Z n0 R8 (⟨"java/lang/Number", "<init>", "()V"⟩ : MethodName) jdk_18_method_1_code 1 none D
set_option maxRecDepth 65536 in
set_option maxHeartbeats 40000000 in
theorem c8 (l : Launch) (Z : State) (a0 : Array Value) (hw : ∀ d ∈ tables_1, d.before a0 Z = true) (n0 : Nat) (h : Heap) (Zs : n0 ≤ h.size) (a0 : Addr)  :
    Own.Con l Z n0 (⟨"java/lang/Number", "<init>", "()V"⟩ : MethodName) jdk_18_method_1_code 1 none R8 #[(.ref a0)] h (fun v h' => v = none ∧ h = h') := by
  refine Own.Con.enter pn_8 (ef_8 a0) fun D r => ?_
  replace r : A8 l Z n0 D h 0 0 1 #[.val (.ref a0)] [(.ref a0)] := Own.aloadN r d8_0 rfl rfl
  replace r : A8 l Z n0 D h 0 0 4 #[.val (.ref a0)] [] := Own.initObj r d8_1 (hw _ (List.mem_of_getElem? (i := 49) rfl)) (hw _ (List.mem_of_getElem? (i := 14) rfl)) (hw _ (List.mem_of_getElem? (i := 15) rfl)) rfl (by decide) (W := 0) (Nat.le_of_eq rfl) (by decide)
  exact ⟨_, _, (Own.Rch.ret0 r d8_4).more (by decide) (by decide), rfl, rfl⟩
theorem d7_0 : decode jdk_33_method_23_code 0 = .ok (.aload_n 0, 1) := by decide +kernel
theorem d7_1 : decode jdk_33_method_23_code 1 = .ok (.invokespecial 202, 3) := by decide +kernel
theorem d7_4 : decode jdk_33_method_23_code 4 = .ok (.aload_n 0, 1) := by decide +kernel
theorem d7_5 : decode jdk_33_method_23_code 5 = .ok (.iload_n 1, 1) := by decide +kernel
theorem d7_6 : decode jdk_33_method_23_code 6 = .ok (.putfield 205, 3) := by decide +kernel
theorem d7_9 : decode jdk_33_method_23_code 9 = .ok (.return_, 1) := by decide +kernel
theorem pd_7_0 : parseMethodDescriptor "()V" = some ⟨[], none⟩ := by decide +kernel
theorem pn_7 : plainFor (⟨"java/lang/Integer", "<init>", "(I)V"⟩ : MethodName) = true := plainFor_of_name (by first | (simp [plainName, overriddenIn, x]; done) | decide +kernel)
theorem ef_7 (a0_ : Addr) (p1 : Int32) (m : MethodId) : entryFrame m #[(.ref a0_), (.int p1)] 2 = mkF m 0 #[.val (.ref a0_), .val (.int p1)] [] := by first | (simp [entryFrame, mkF, argsToLocals, Value.category, maxLocals]; done) | rfl
abbrev R7 : Room := ({ frames := 2, cells := 0, slots := 0, locals := 24 } : Room)
abbrev A7 (l : Launch) (Z : State) (n0 : Nat) (D : Own.Dyn) := Own.Rch l Z n0 R7 (⟨"java/lang/Integer", "<init>", "(I)V"⟩ : MethodName) jdk_33_method_23_code 2 none D
set_option maxRecDepth 65536 in
set_option maxHeartbeats 40000000 in
theorem c7 (l : Launch) (Z : State) (a0 : Array Value) (hw : ∀ d ∈ tables_1, d.before a0 Z = true) (n0 : Nat) (h : Heap) (Zs : n0 ≤ h.size) (a0_ : Addr) (p1 : Int32) (u_value : Value) (F_value_a0_ : Fld Z h a0_ "java/lang/Integer" "value" "I" u_value) (X_a0_ : Exa Z h a0_ "java/lang/Integer") (ge_a0_ : n0 ≤ a0_) :
    Own.Con l Z n0 (⟨"java/lang/Integer", "<init>", "(I)V"⟩ : MethodName) jdk_33_method_23_code 2 none R7 #[(.ref a0_), (.int p1)] h (fun v h' => v = none ∧ Keep h h' [a0_] ∧ Exa Z h' a0_ "java/lang/Integer" ∧ Fld Z h' a0_ "java/lang/Integer" "value" "I" (.int p1)) := by
  refine Own.Con.enter pn_7 (ef_7 a0_ p1) fun D r => ?_
  have K : Keep h h [a0_] := Keep.refl _ _
  replace r : A7 l Z n0 D h 0 0 1 #[.val (.ref a0_), .val (.int p1)] [(.ref a0_)] := Own.aloadN r d7_0 rfl rfl
  obtain ⟨rv1, h2, hQ3, r⟩ := Own.callI [] r d7_1 (c8 l Z a0 hw n0 h Zs a0_) (hw _ (List.mem_of_getElem? (i := 43) rfl)) (hw _ (List.mem_of_getElem? (i := 44) rfl)) (hw _ (List.mem_of_getElem? (i := 47) rfl)) (hw _ (List.mem_of_getElem? (i := 48) rfl)) rfl (lenOf pd_7_0 rfl) rfl rfl (W := 0) (Nat.le_of_eq rfl) rfl (by decide) (by decide) (by decide) (by decide) (by decide)
  obtain ⟨rfl, rfl⟩ := hQ3
  replace r : A7 l Z n0 D h 0 0 4 #[.val (.ref a0_), .val (.int p1)] [] := r
  replace r : A7 l Z n0 D h 0 0 5 #[.val (.ref a0_), .val (.int p1)] [(.ref a0_)] := Own.aloadN r d7_4 rfl rfl
  replace r : A7 l Z n0 D h 0 0 6 #[.val (.ref a0_), .val (.int p1)] [(.int p1), (.ref a0_)] := Own.iloadN r d7_5 rfl
  obtain ⟨h5, W4, r⟩ := Own.putfield r d7_6 (host := "") (Or.inl (hw _ (List.mem_of_getElem? (i := 50) rfl))) Via.refl F_value_a0_ X_a0_ (Or.inr ⟨(hw _ (List.mem_of_getElem? (i := 51) rfl)), rfl, rfl⟩) (hw _ (List.mem_of_getElem? (i := 38) rfl)) (ty := .int) (by decide) rfl rfl ge_a0_
  replace r : A7 l Z n0 D h5 0 0 9 #[.val (.ref a0_), .val (.int p1)] [] := r
  replace F_value_a0_ := F_value_a0_.same W4
  replace X_a0_ := X_a0_.wr W4
  replace Zs := Nat.le_trans Zs (Nat.le_of_eq W4.size.symm)
  replace K := K.wr W4 (Or.inl (by simp))
  exact ⟨_, _, (Own.Rch.ret0 r d7_9).more (by decide) (by decide), rfl, K, X_a0_, F_value_a0_⟩
theorem d6_0 : decode jdk_33_method_22_code 0 = .ok (.iload_n 0, 1) := by decide +kernel
theorem d6_1 : decode jdk_33_method_22_code 1 = .ok (.bipush (-128), 2) := by decide +kernel
theorem d6_3 : decode jdk_33_method_22_code 3 = .ok (.if_icmp .lt 20, 3) := by decide +kernel
theorem d6_6 : decode jdk_33_method_22_code 6 = .ok (.iload_n 0, 1) := by decide +kernel
theorem d6_7 : decode jdk_33_method_22_code 7 = .ok (.getstatic 191, 3) := by decide +kernel
theorem d6_10 : decode jdk_33_method_22_code 10 = .ok (.if_icmp .gt 13, 3) := by decide +kernel
theorem d6_13 : decode jdk_33_method_22_code 13 = .ok (.getstatic 195, 3) := by decide +kernel
theorem d6_16 : decode jdk_33_method_22_code 16 = .ok (.iload_n 0, 1) := by decide +kernel
theorem d6_17 : decode jdk_33_method_22_code 17 = .ok (.sipush 128, 3) := by decide +kernel
theorem d6_20 : decode jdk_33_method_22_code 20 = .ok (.iadd, 1) := by decide +kernel
theorem d6_21 : decode jdk_33_method_22_code 21 = .ok (.aaload, 1) := by decide +kernel
theorem d6_22 : decode jdk_33_method_22_code 22 = .ok (.areturn, 1) := by decide +kernel
theorem d6_23 : decode jdk_33_method_22_code 23 = .ok (.new 1, 3) := by decide +kernel
theorem d6_26 : decode jdk_33_method_22_code 26 = .ok (.dup, 1) := by decide +kernel
theorem d6_27 : decode jdk_33_method_22_code 27 = .ok (.iload_n 0, 1) := by decide +kernel
theorem d6_28 : decode jdk_33_method_22_code 28 = .ok (.invokespecial 199, 3) := by decide +kernel
theorem d6_31 : decode jdk_33_method_22_code 31 = .ok (.areturn, 1) := by decide +kernel
theorem pd_6_0 : parseMethodDescriptor "(I)V" = some ⟨[.int], none⟩ := by decide +kernel
theorem pn_6 : plainFor (⟨"java/lang/Integer", "valueOf", "(I)Ljava/lang/Integer;"⟩ : MethodName) = true := plainFor_of_name (by first | (simp [plainName, overriddenIn, x]; done) | decide +kernel)
theorem ef_6 (p0 : Int32) (m : MethodId) : entryFrame m #[(.int p0)] 1 = mkF m 0 #[.val (.int p0)] [] := by first | (simp [entryFrame, mkF, argsToLocals, Value.category, maxLocals]; done) | rfl
abbrev R6 : Room := ({ frames := 3, cells := 1, slots := 1, locals := 38 } : Room)
abbrev A6 (l : Launch) (Z : State) (n0 : Nat) (D : Own.Dyn) := Own.Rch l Z n0 R6 (⟨"java/lang/Integer", "valueOf", "(I)Ljava/lang/Integer;"⟩ : MethodName) jdk_33_method_22_code 1 (some (.object "java/lang/Integer")) D
set_option maxRecDepth 65536 in
set_option maxHeartbeats 40000000 in
theorem c6 (l : Launch) (Z : State) (a0 : Array Value) (hw : ∀ d ∈ tables_1, d.before a0 Z = true) (n0 : Nat) (h : Heap) (Zs : n0 ≤ h.size) (p0 : Int32) (O : Old Z n0 h) (hI : ICache Z) :
    Own.Con l Z n0 (⟨"java/lang/Integer", "valueOf", "(I)Ljava/lang/Integer;"⟩ : MethodName) jdk_33_method_22_code 1 (some (.object "java/lang/Integer")) R6 #[(.int p0)] h (fun v h' => ∃ b, v = some (.ref b) ∧ Keep h h' [] ∧ Exa Z h' b "java/lang/Integer") := by
  refine Own.Con.enter pn_6 (ef_6 p0) fun D r => ?_
  obtain ⟨SH0, ca, cell, SC0, AC0, hel⟩ := hI
  have SH := SH0.ext O.2
  have SC := SC0.ext O.2
  have AC := AC0.ext O.2
  have K : Keep h h [] := Keep.refl _ _
  replace r : A6 l Z n0 D h 0 0 1 #[.val (.int p0)] [(.int p0)] := Own.iloadN r d6_0 rfl
  replace r : A6 l Z n0 D h 0 0 3 #[.val (.int p0)] [(.int (-128 : Int32)), (.int p0)] := Own.bipush r d6_1 rfl
  by_cases br1 : p0 < (-128 : Int32)
  · skip
    replace r : A6 l Z n0 D h 0 0 23 #[.val (.int p0)] [] := Own.icmpYes r d6_3 (tlt br1).1 (by decide) (by decide)
    obtain ⟨h2, ⟨E2, X_b2, D2⟩, r⟩ := Own.newObj r d6_23 (hw _ (List.mem_of_getElem? (i := 37) rfl)) (hw _ (List.mem_of_getElem? (i := 38) rfl)) (hw _ (List.mem_of_getElem? (i := 29) rfl)) (by decide) (by decide)
    obtain ⟨b2, g2⟩ : ∃ z, z = h.size := ⟨_, rfl⟩
    rw [← g2] at X_b2 D2 r
    have ge_b2 : n0 ≤ b2 := Nat.le_trans Zs (Nat.le_of_eq g2.symm)
    have sz_b2 : h.size ≤ b2 := Nat.le_trans K.1 (Nat.le_of_eq g2.symm)
    replace O := O.ext E2
    replace Zs := Nat.le_trans Zs E2.1
    replace K := K.ext E2
    replace r : A6 l Z n0 D h2 1 1 26 #[.val (.int p0)] [(.ref b2)] := r
    have F_value_b2 : Fld Z h2 b2 "java/lang/Integer" "value" "I" (.int (0 : Int32)) := D2 (Or.inr (hw _ (List.mem_of_getElem? (i := 51) rfl))) (ty := .int) (by decide)
    replace r : A6 l Z n0 D h2 1 1 27 #[.val (.int p0)] [(.ref b2), (.ref b2)] := Own.dup r d6_26 rfl
    replace r : A6 l Z n0 D h2 1 1 28 #[.val (.int p0)] [(.int p0), (.ref b2), (.ref b2)] := Own.iloadN r d6_27 rfl
    obtain ⟨rv3, h4, hQ5, r⟩ := Own.callI [(.int p0)] r d6_28 (c7 l Z a0 hw n0 h2 Zs b2 p0 _ F_value_b2 X_b2 ge_b2) (hw _ (List.mem_of_getElem? (i := 39) rfl)) (hw _ (List.mem_of_getElem? (i := 40) rfl)) (hw _ (List.mem_of_getElem? (i := 29) rfl)) (hw _ (List.mem_of_getElem? (i := 42) rfl)) rfl (lenOf pd_6_0 rfl) rfl rfl (W := 1) (Nat.le_of_eq rfl) rfl (by decide) (by decide) (by decide) (by decide) (by decide)
    obtain ⟨rfl, K6, X_b2, F_value_b2⟩ := hQ5
    replace O := O.keep K6 (allS ge_b2 all0)
    replace Zs := Nat.le_trans Zs K6.1
    replace K := K.trans K6 (by simp [sz_b2])
    replace r : A6 l Z n0 D h4 1 1 31 #[.val (.int p0)] [(.ref b2)] := r
    exact ⟨_, _, (Own.Rch.retA r d6_31 rfl rfl).more (by decide) (by decide), b2, rfl, K, X_b2⟩
  · skip
    replace r : A6 l Z n0 D h 0 0 6 #[.val (.int p0)] [] := Own.icmpNo r d6_3 (flt br1).1
    replace r : A6 l Z n0 D h 0 0 7 #[.val (.int p0)] [(.int p0)] := Own.iloadN r d6_6 rfl
    replace r : A6 l Z n0 D h 0 0 10 #[.val (.int p0)] [(.int (127 : Int32)), (.int p0)] := Own.getstatic r d6_7 (hw _ (List.mem_of_getElem? (i := 31) rfl)) Via.refl SH
    by_cases br7 : (127 : Int32) < p0
    · skip
      replace r : A6 l Z n0 D h 0 0 23 #[.val (.int p0)] [] := Own.icmpYes r d6_10 (tlt br7).2.2.1 (by decide) (by decide)
      obtain ⟨h8, ⟨E8, X_b8, D8⟩, r⟩ := Own.newObj r d6_23 (hw _ (List.mem_of_getElem? (i := 37) rfl)) (hw _ (List.mem_of_getElem? (i := 38) rfl)) (hw _ (List.mem_of_getElem? (i := 29) rfl)) (by decide) (by decide)
      obtain ⟨b8, g8⟩ : ∃ z, z = h.size := ⟨_, rfl⟩
      rw [← g8] at X_b8 D8 r
      have ge_b8 : n0 ≤ b8 := Nat.le_trans Zs (Nat.le_of_eq g8.symm)
      have sz_b8 : h.size ≤ b8 := Nat.le_trans K.1 (Nat.le_of_eq g8.symm)
      replace O := O.ext E8
      replace Zs := Nat.le_trans Zs E8.1
      replace K := K.ext E8
      replace r : A6 l Z n0 D h8 1 1 26 #[.val (.int p0)] [(.ref b8)] := r
      have F_value_b8 : Fld Z h8 b8 "java/lang/Integer" "value" "I" (.int (0 : Int32)) := D8 (Or.inr (hw _ (List.mem_of_getElem? (i := 51) rfl))) (ty := .int) (by decide)
      replace r : A6 l Z n0 D h8 1 1 27 #[.val (.int p0)] [(.ref b8), (.ref b8)] := Own.dup r d6_26 rfl
      replace r : A6 l Z n0 D h8 1 1 28 #[.val (.int p0)] [(.int p0), (.ref b8), (.ref b8)] := Own.iloadN r d6_27 rfl
      obtain ⟨rv9, h10, hQ11, r⟩ := Own.callI [(.int p0)] r d6_28 (c7 l Z a0 hw n0 h8 Zs b8 p0 _ F_value_b8 X_b8 ge_b8) (hw _ (List.mem_of_getElem? (i := 39) rfl)) (hw _ (List.mem_of_getElem? (i := 40) rfl)) (hw _ (List.mem_of_getElem? (i := 29) rfl)) (hw _ (List.mem_of_getElem? (i := 42) rfl)) rfl (lenOf pd_6_0 rfl) rfl rfl (W := 1) (Nat.le_of_eq rfl) rfl (by decide) (by decide) (by decide) (by decide) (by decide)
      obtain ⟨rfl, K12, X_b8, F_value_b8⟩ := hQ11
      replace O := O.keep K12 (allS ge_b8 all0)
      replace Zs := Nat.le_trans Zs K12.1
      replace K := K.trans K12 (by simp [sz_b8])
      replace r : A6 l Z n0 D h10 1 1 31 #[.val (.int p0)] [(.ref b8)] := r
      exact ⟨_, _, (Own.Rch.retA r d6_31 rfl rfl).more (by decide) (by decide), b8, rfl, K, X_b8⟩
    · skip
      replace r : A6 l Z n0 D h 0 0 13 #[.val (.int p0)] [] := Own.icmpNo r d6_10 (flt br7).2.2.1
      replace r : A6 l Z n0 D h 0 0 16 #[.val (.int p0)] [(.ref ca)] := Own.getstatic r d6_13 (hw _ (List.mem_of_getElem? (i := 33) rfl)) Via.refl SC
      replace r : A6 l Z n0 D h 0 0 17 #[.val (.int p0)] [(.int p0), (.ref ca)] := Own.iloadN r d6_16 rfl
      replace r : A6 l Z n0 D h 0 0 20 #[.val (.int p0)] [(.int (128 : Int32)), (.int p0), (.ref ca)] := Own.sipush r d6_17 rfl
      replace r : A6 l Z n0 D h 0 0 21 #[.val (.int p0)] [(.int (p0 + (128 : Int32))), (.ref ca)] := Own.iadd r d6_20
      obtain ⟨bx, hin, hat, hE⟩ := hel p0 (by assumption) (by assumption)
      replace r : A6 l Z n0 D h 0 0 22 #[.val (.int p0)] [(.ref bx)] := Own.aaload r d6_21 AC rfl hin hat
      replace hE := hE.ext O.2
      exact ⟨_, _, (Own.Rch.retA r d6_22 rfl rfl).more (by decide) (by decide), bx, rfl, K, hE⟩

theorem own_n {y : Int32} (h : S5n y) : y = (0 : Int32) := by simpa [S5n] using h
theorem own_i {y : Int32} (h : S5i y) : y = (0 : Int32) := by simpa [S5i] using h
theorem own_s {lo hi y : Int32} (h : S5 lo hi lo hi y) : y = (1 : Int32) := by obtain ⟨m, e, rfl⟩ := h; rw [e]; simp
theorem own_0 {lo hi n x y m : Int32} (h : S5 lo hi n x y) (e : m = (if lo = n then (if hi = x then (1 : Int32) else (0 : Int32)) else (0 : Int32))) : y = m := by obtain ⟨m', e', rfl⟩ := h; rw [e, e']
theorem own_1 {lo hi x y m : Int32} (h : S5 lo hi lo x y) (e : m = (if x = hi then (1 : Int32) else (0 : Int32))) : y = m := by obtain ⟨m', e', rfl⟩ := h; rw [e, e']; simp [eq_comm]
theorem own_2 {lo hi n y m : Int32} (h : S5 lo hi n hi y) (e : m = (if n = lo then (1 : Int32) else (0 : Int32))) : y = m := by obtain ⟨m', e', rfl⟩ := h; rw [e, e']; simp [eq_comm]
theorem own_7 {lo hi y m : Int32} (h : S5 lo hi lo lo y) (e : m = (if lo = hi then (1 : Int32) else (0 : Int32))) : y = m := by obtain ⟨m', e', rfl⟩ := h; rw [e, e']; simp [eq_comm]

theorem pd_0_0 : parseMethodDescriptor "(II)I" = some ⟨[.int, .int], some .int⟩ := by decide +kernel
theorem pd_0_1 : parseMethodDescriptor "(II)V" = some ⟨[.int, .int], none⟩ := by decide +kernel
theorem pd_0_2 : parseMethodDescriptor "(Ljava/lang/Object;)Z" = some ⟨[(.object "java/lang/Object")], some .boolean⟩ := by decide +kernel
theorem pd_0_3 : parseMethodDescriptor "(I)Ljava/lang/Integer;" = some ⟨[.int], some (.object "java/lang/Integer")⟩ := by decide +kernel
theorem pn_0 : plainFor x = true := plainFor_of_name (by first | (simp [plainName, overriddenIn, x]; done) | decide +kernel)
theorem ef_0 (a_ : Int32) (b_ : Int32) (c_ : Int32) (d_ : Int32) (sel : Int32) (m : MethodId) : entryFrame m #[(.int a_), (.int b_), (.int c_), (.int d_), (.int sel)] maxLocals = mkF m 0 #[.val (.int a_), .val (.int b_), .val (.int c_), .val (.int d_), .val (.int sel), .unset, .unset, .unset, .unset, .unset, .unset, .unset, .unset] [] := by first | (simp [entryFrame, mkF, argsToLocals, Value.category, maxLocals]; done) | rfl
abbrev R0 : Room := room_1
abbrev A0 (l : Launch) (Z : State) (n0 : Nat) (D : Own.Dyn) := Own.Rch l Z n0 R0 x code maxLocals ret D
set_option maxRecDepth 65536 in
set_option maxHeartbeats 40000000 in
theorem c0 (l : Launch) (Z : State) (a0 : Array Value) (hw : ∀ d ∈ tables_1, d.before a0 Z = true) (n0 : Nat) (h : Heap) (Zs : n0 ≤ h.size) (a_ : Int32) (b_ : Int32) (c_ : Int32) (d_ : Int32) (sel : Int32) (O : Old Z n0 h) (hI : ICache Z) :
    Own.Con l Z n0 x code maxLocals ret R0 #[(.int a_), (.int b_), (.int c_), (.int d_), (.int sel)] h (fun v h' => v = some (.int 1)) := by
  refine Own.Con.enter pn_0 (ef_0 a_ b_ c_ d_ sel) fun D r => ?_
  replace r : A0 l Z n0 D h 0 0 1 #[.val (.int a_), .val (.int b_), .val (.int c_), .val (.int d_), .val (.int sel), .unset, .unset, .unset, .unset, .unset, .unset, .unset, .unset] [(.int a_)] := Own.iloadN r at_0 rfl
  replace r : A0 l Z n0 D h 0 0 2 #[.val (.int a_), .val (.int b_), .val (.int c_), .val (.int d_), .val (.int sel), .unset, .unset, .unset, .unset, .unset, .unset, .unset, .unset] [(.int b_), (.int a_)] := Own.iloadN r at_1 rfl
  obtain ⟨rv1, h2, hQ3, r⟩ := Own.callS [(.int a_), (.int b_)] r at_2 (c1 l Z a0 hw n0 h Zs a_ b_) (hw _ (List.mem_of_getElem? (i := 0) rfl)) (hw _ (List.mem_of_getElem? (i := 1) rfl)) (hw _ (List.mem_of_getElem? (i := 2) rfl)) (hw _ (List.mem_of_getElem? (i := 3) rfl)) (lenOf pd_0_0 rfl) rfl rfl (W := 0) (Nat.le_of_eq rfl) rfl (by decide) (by decide) (by decide) (by decide) (by decide)
  obtain ⟨rfl, y4, rfl, e_y4⟩ := hQ3
  replace r : A0 l Z n0 D h 0 0 5 #[.val (.int a_), .val (.int b_), .val (.int c_), .val (.int d_), .val (.int sel), .unset, .unset, .unset, .unset, .unset, .unset, .unset, .unset] [(.int y4)] := r
  replace r : A0 l Z n0 D h 0 0 7 #[.val (.int a_), .val (.int b_), .val (.int c_), .val (.int d_), .val (.int sel), .val (.int y4), .unset, .unset, .unset, .unset, .unset, .unset, .unset] [] := Own.istore r at_5 rfl
  replace r : A0 l Z n0 D h 0 0 8 #[.val (.int a_), .val (.int b_), .val (.int c_), .val (.int d_), .val (.int sel), .val (.int y4), .unset, .unset, .unset, .unset, .unset, .unset, .unset] [(.int a_)] := Own.iloadN r at_7 rfl
  replace r : A0 l Z n0 D h 0 0 9 #[.val (.int a_), .val (.int b_), .val (.int c_), .val (.int d_), .val (.int sel), .val (.int y4), .unset, .unset, .unset, .unset, .unset, .unset, .unset] [(.int b_), (.int a_)] := Own.iloadN r at_8 rfl
  obtain ⟨rv5, h6, hQ7, r⟩ := Own.callS [(.int a_), (.int b_)] r at_9 (c2 l Z a0 hw n0 h Zs a_ b_) (hw _ (List.mem_of_getElem? (i := 4) rfl)) (hw _ (List.mem_of_getElem? (i := 5) rfl)) (hw _ (List.mem_of_getElem? (i := 2) rfl)) (hw _ (List.mem_of_getElem? (i := 6) rfl)) (lenOf pd_0_0 rfl) rfl rfl (W := 0) (Nat.le_of_eq rfl) rfl (by decide) (by decide) (by decide) (by decide) (by decide)
  obtain ⟨rfl, y8, rfl, e_y8⟩ := hQ7
  replace r : A0 l Z n0 D h 0 0 12 #[.val (.int a_), .val (.int b_), .val (.int c_), .val (.int d_), .val (.int sel), .val (.int y4), .unset, .unset, .unset, .unset, .unset, .unset, .unset] [(.int y8)] := r
  replace r : A0 l Z n0 D h 0 0 14 #[.val (.int a_), .val (.int b_), .val (.int c_), .val (.int d_), .val (.int sel), .val (.int y4), .val (.int y8), .unset, .unset, .unset, .unset, .unset, .unset] [] := Own.istore r at_12 rfl
  obtain ⟨h9, ⟨E9, X_b9, D9⟩, r⟩ := Own.newObj r at_14 (hw _ (List.mem_of_getElem? (i := 7) rfl)) (hw _ (List.mem_of_getElem? (i := 8) rfl)) (hw _ (List.mem_of_getElem? (i := 9) rfl)) (by decide) (by decide)
  obtain ⟨b9, g9⟩ : ∃ z, z = h.size := ⟨_, rfl⟩
  rw [← g9] at X_b9 D9 r
  have ge_b9 : n0 ≤ b9 := Nat.le_trans Zs (Nat.le_of_eq g9.symm)
  replace O := O.ext E9
  replace Zs := Nat.le_trans Zs E9.1
  replace r : A0 l Z n0 D h9 1 2 17 #[.val (.int a_), .val (.int b_), .val (.int c_), .val (.int d_), .val (.int sel), .val (.int y4), .val (.int y8), .unset, .unset, .unset, .unset, .unset, .unset] [(.ref b9)] := r
  have F_min_b9 : Fld Z h9 b9 "com/example/ref_access_rules/refaccessrules/rule/VoteRange" "min" "I" (.int (0 : Int32)) := D9 (Or.inr (hw _ (List.mem_of_getElem? (i := 17) rfl))) (ty := .int) (by decide)
  have F_max_b9 : Fld Z h9 b9 "com/example/ref_access_rules/refaccessrules/rule/VoteRange" "max" "I" (.int (0 : Int32)) := D9 (Or.inr (hw _ (List.mem_of_getElem? (i := 19) rfl))) (ty := .int) (by decide)
  replace r : A0 l Z n0 D h9 1 2 18 #[.val (.int a_), .val (.int b_), .val (.int c_), .val (.int d_), .val (.int sel), .val (.int y4), .val (.int y8), .unset, .unset, .unset, .unset, .unset, .unset] [(.ref b9), (.ref b9)] := Own.dup r at_17 rfl
  replace r : A0 l Z n0 D h9 1 2 20 #[.val (.int a_), .val (.int b_), .val (.int c_), .val (.int d_), .val (.int sel), .val (.int y4), .val (.int y8), .unset, .unset, .unset, .unset, .unset, .unset] [(.int y4), (.ref b9), (.ref b9)] := Own.iload r at_18 rfl
  replace r : A0 l Z n0 D h9 1 2 22 #[.val (.int a_), .val (.int b_), .val (.int c_), .val (.int d_), .val (.int sel), .val (.int y4), .val (.int y8), .unset, .unset, .unset, .unset, .unset, .unset] [(.int y8), (.int y4), (.ref b9), (.ref b9)] := Own.iload r at_20 rfl
  obtain ⟨rv10, h11, hQ12, r⟩ := Own.callI [(.int y4), (.int y8)] r at_22 (c3 l Z a0 hw n0 h9 Zs b9 y4 y8 _ _ F_min_b9 F_max_b9 X_b9 ge_b9 (own_le e_y4 e_y8)) (hw _ (List.mem_of_getElem? (i := 10) rfl)) (hw _ (List.mem_of_getElem? (i := 11) rfl)) (hw _ (List.mem_of_getElem? (i := 9) rfl)) (hw _ (List.mem_of_getElem? (i := 12) rfl)) rfl (lenOf pd_0_1 rfl) rfl rfl (W := 1) (Nat.le_of_eq rfl) rfl (by decide) (by decide) (by decide) (by decide) (by decide)
  obtain ⟨rfl, K13, X_b9, F_min_b9, F_max_b9⟩ := hQ12
  replace O := O.keep K13 (allS ge_b9 all0)
  replace Zs := Nat.le_trans Zs K13.1
  replace r : A0 l Z n0 D h11 1 2 25 #[.val (.int a_), .val (.int b_), .val (.int c_), .val (.int d_), .val (.int sel), .val (.int y4), .val (.int y8), .unset, .unset, .unset, .unset, .unset, .unset] [(.ref b9)] := r
  replace r : A0 l Z n0 D h11 1 2 27 #[.val (.int a_), .val (.int b_), .val (.int c_), .val (.int d_), .val (.int sel), .val (.int y4), .val (.int y8), .val (.ref b9), .unset, .unset, .unset, .unset, .unset] [] := Own.astore r at_25 rfl rfl
  replace r : A0 l Z n0 D h11 1 2 29 #[.val (.int a_), .val (.int b_), .val (.int c_), .val (.int d_), .val (.int sel), .val (.int y4), .val (.int y8), .val (.ref b9), .unset, .unset, .unset, .unset, .unset] [(.int sel)] := Own.iload r at_27 rfl
  replace r : A0 l Z n0 D h11 1 2 31 #[.val (.int a_), .val (.int b_), .val (.int c_), .val (.int d_), .val (.int sel), .val (.int y4), .val (.int y8), .val (.ref b9), .unset, .unset, .unset, .unset, .unset] [(.int (7 : Int32)), (.int sel)] := Own.bipush r at_29 rfl
  replace r : A0 l Z n0 D h11 1 2 32 #[.val (.int a_), .val (.int b_), .val (.int c_), .val (.int d_), .val (.int sel), .val (.int y4), .val (.int y8), .val (.ref b9), .unset, .unset, .unset, .unset, .unset] [(.int (sel &&& (7 : Int32)))] := Own.iand r at_31
  obtain ⟨v8_14, e_v8_14⟩ : ∃ z : Int32, z = (sel &&& (7 : Int32)) := ⟨_, rfl⟩
  replace r : A0 l Z n0 D h11 1 2 32 #[.val (.int a_), .val (.int b_), .val (.int c_), .val (.int d_), .val (.int sel), .val (.int y4), .val (.int y8), .val (.ref b9), .unset, .unset, .unset, .unset, .unset] [(.int v8_14)] := by rw [e_v8_14]; exact r
  replace r : A0 l Z n0 D h11 1 2 34 #[.val (.int a_), .val (.int b_), .val (.int c_), .val (.int d_), .val (.int sel), .val (.int y4), .val (.int y8), .val (.ref b9), .val (.int v8_14), .unset, .unset, .unset, .unset] [] := Own.istore r at_32 rfl
  replace r : A0 l Z n0 D h11 1 2 36 #[.val (.int a_), .val (.int b_), .val (.int c_), .val (.int d_), .val (.int sel), .val (.int y4), .val (.int y8), .val (.ref b9), .val (.int v8_14), .unset, .unset, .unset, .unset] [(.int v8_14)] := Own.iload r at_34 rfl
  by_cases br15 : v8_14 = (0 : Int32)
  · skip
    replace r : A0 l Z n0 D h11 1 2 39 #[.val (.int a_), .val (.int b_), .val (.int c_), .val (.int d_), .val (.int sel), .val (.int y4), .val (.int y8), .val (.ref b9), .val (.int v8_14), .unset, .unset, .unset, .unset] [] := Own.ifNo r at_36 ((if0 _ _).trans (teq br15).2)
    replace r : A0 l Z n0 D h11 1 2 40 #[.val (.int a_), .val (.int b_), .val (.int c_), .val (.int d_), .val (.int sel), .val (.int y4), .val (.int y8), .val (.ref b9), .val (.int v8_14), .unset, .unset, .unset, .unset] [(.int c_)] := Own.iloadN r at_39 rfl
    replace r : A0 l Z n0 D h11 1 2 41 #[.val (.int a_), .val (.int b_), .val (.int c_), .val (.int d_), .val (.int sel), .val (.int y4), .val (.int y8), .val (.ref b9), .val (.int v8_14), .unset, .unset, .unset, .unset] [(.int d_), (.int c_)] := Own.iloadN r at_40 rfl
    obtain ⟨rv16, h17, hQ18, r⟩ := Own.callS [(.int c_), (.int d_)] r at_41 (c1 l Z a0 hw n0 h11 Zs c_ d_) (hw _ (List.mem_of_getElem? (i := 0) rfl)) (hw _ (List.mem_of_getElem? (i := 1) rfl)) (hw _ (List.mem_of_getElem? (i := 2) rfl)) (hw _ (List.mem_of_getElem? (i := 3) rfl)) (lenOf pd_0_0 rfl) rfl rfl (W := 0) (Nat.le_of_eq rfl) rfl (by decide) (by decide) (by decide) (by decide) (by decide)
    obtain ⟨rfl, y19, rfl, e_y19⟩ := hQ18
    replace r : A0 l Z n0 D h11 1 2 44 #[.val (.int a_), .val (.int b_), .val (.int c_), .val (.int d_), .val (.int sel), .val (.int y4), .val (.int y8), .val (.ref b9), .val (.int v8_14), .unset, .unset, .unset, .unset] [(.int y19)] := r
    replace r : A0 l Z n0 D h11 1 2 46 #[.val (.int a_), .val (.int b_), .val (.int c_), .val (.int d_), .val (.int sel), .val (.int y4), .val (.int y8), .val (.ref b9), .val (.int v8_14), .unset, .unset, .val (.int y19), .unset] [] := Own.istore r at_44 rfl
    replace r : A0 l Z n0 D h11 1 2 47 #[.val (.int a_), .val (.int b_), .val (.int c_), .val (.int d_), .val (.int sel), .val (.int y4), .val (.int y8), .val (.ref b9), .val (.int v8_14), .unset, .unset, .val (.int y19), .unset] [(.int c_)] := Own.iloadN r at_46 rfl
    replace r : A0 l Z n0 D h11 1 2 48 #[.val (.int a_), .val (.int b_), .val (.int c_), .val (.int d_), .val (.int sel), .val (.int y4), .val (.int y8), .val (.ref b9), .val (.int v8_14), .unset, .unset, .val (.int y19), .unset] [(.int d_), (.int c_)] := Own.iloadN r at_47 rfl
    obtain ⟨rv20, h21, hQ22, r⟩ := Own.callS [(.int c_), (.int d_)] r at_48 (c2 l Z a0 hw n0 h11 Zs c_ d_) (hw _ (List.mem_of_getElem? (i := 4) rfl)) (hw _ (List.mem_of_getElem? (i := 5) rfl)) (hw _ (List.mem_of_getElem? (i := 2) rfl)) (hw _ (List.mem_of_getElem? (i := 6) rfl)) (lenOf pd_0_0 rfl) rfl rfl (W := 0) (Nat.le_of_eq rfl) rfl (by decide) (by decide) (by decide) (by decide) (by decide)
    obtain ⟨rfl, y23, rfl, e_y23⟩ := hQ22
    replace r : A0 l Z n0 D h11 1 2 51 #[.val (.int a_), .val (.int b_), .val (.int c_), .val (.int d_), .val (.int sel), .val (.int y4), .val (.int y8), .val (.ref b9), .val (.int v8_14), .unset, .unset, .val (.int y19), .unset] [(.int y23)] := r
    replace r : A0 l Z n0 D h11 1 2 53 #[.val (.int a_), .val (.int b_), .val (.int c_), .val (.int d_), .val (.int sel), .val (.int y4), .val (.int y8), .val (.ref b9), .val (.int v8_14), .unset, .unset, .val (.int y19), .val (.int y23)] [] := Own.istore r at_51 rfl
    obtain ⟨h24, ⟨E24, X_b24, D24⟩, r⟩ := Own.newObj r at_53 (hw _ (List.mem_of_getElem? (i := 7) rfl)) (hw _ (List.mem_of_getElem? (i := 8) rfl)) (hw _ (List.mem_of_getElem? (i := 9) rfl)) (by decide) (by decide)
    obtain ⟨b24, g24⟩ : ∃ z, z = h11.size := ⟨_, rfl⟩
    rw [← g24] at X_b24 D24 r
    have ge_b24 : n0 ≤ b24 := Nat.le_trans Zs (Nat.le_of_eq g24.symm)
    have ne_b9_b24 : b9 ≠ b24 := Own.ne_lt X_b9.lt g24
    replace O := O.ext E24
    replace X_b9 := X_b9.ext E24
    replace F_min_b9 := F_min_b9.ext E24
    replace F_max_b9 := F_max_b9.ext E24
    replace Zs := Nat.le_trans Zs E24.1
    replace r : A0 l Z n0 D h24 2 4 56 #[.val (.int a_), .val (.int b_), .val (.int c_), .val (.int d_), .val (.int sel), .val (.int y4), .val (.int y8), .val (.ref b9), .val (.int v8_14), .unset, .unset, .val (.int y19), .val (.int y23)] [(.ref b24)] := r
    have F_min_b24 : Fld Z h24 b24 "com/example/ref_access_rules/refaccessrules/rule/VoteRange" "min" "I" (.int (0 : Int32)) := D24 (Or.inr (hw _ (List.mem_of_getElem? (i := 17) rfl))) (ty := .int) (by decide)
    have F_max_b24 : Fld Z h24 b24 "com/example/ref_access_rules/refaccessrules/rule/VoteRange" "max" "I" (.int (0 : Int32)) := D24 (Or.inr (hw _ (List.mem_of_getElem? (i := 19) rfl))) (ty := .int) (by decide)
    replace r : A0 l Z n0 D h24 2 4 57 #[.val (.int a_), .val (.int b_), .val (.int c_), .val (.int d_), .val (.int sel), .val (.int y4), .val (.int y8), .val (.ref b9), .val (.int v8_14), .unset, .unset, .val (.int y19), .val (.int y23)] [(.ref b24), (.ref b24)] := Own.dup r at_56 rfl
    replace r : A0 l Z n0 D h24 2 4 59 #[.val (.int a_), .val (.int b_), .val (.int c_), .val (.int d_), .val (.int sel), .val (.int y4), .val (.int y8), .val (.ref b9), .val (.int v8_14), .unset, .unset, .val (.int y19), .val (.int y23)] [(.int y19), (.ref b24), (.ref b24)] := Own.iload r at_57 rfl
    replace r : A0 l Z n0 D h24 2 4 61 #[.val (.int a_), .val (.int b_), .val (.int c_), .val (.int d_), .val (.int sel), .val (.int y4), .val (.int y8), .val (.ref b9), .val (.int v8_14), .unset, .unset, .val (.int y19), .val (.int y23)] [(.int y23), (.int y19), (.ref b24), (.ref b24)] := Own.iload r at_59 rfl
    obtain ⟨rv25, h26, hQ27, r⟩ := Own.callI [(.int y19), (.int y23)] r at_61 (c3 l Z a0 hw n0 h24 Zs b24 y19 y23 _ _ F_min_b24 F_max_b24 X_b24 ge_b24 (own_le e_y19 e_y23)) (hw _ (List.mem_of_getElem? (i := 10) rfl)) (hw _ (List.mem_of_getElem? (i := 11) rfl)) (hw _ (List.mem_of_getElem? (i := 9) rfl)) (hw _ (List.mem_of_getElem? (i := 12) rfl)) rfl (lenOf pd_0_1 rfl) rfl rfl (W := 1) (Nat.le_of_eq rfl) rfl (by decide) (by decide) (by decide) (by decide) (by decide)
    obtain ⟨rfl, K28, X_b24, F_min_b24, F_max_b24⟩ := hQ27
    replace O := O.keep K28 (allS ge_b24 all0)
    replace X_b9 := X_b9.keep K28
    replace F_min_b9 := F_min_b9.keep K28 (by simp [ne_b9_b24])
    replace F_max_b9 := F_max_b9.keep K28 (by simp [ne_b9_b24])
    replace Zs := Nat.le_trans Zs K28.1
    replace r : A0 l Z n0 D h26 2 4 64 #[.val (.int a_), .val (.int b_), .val (.int c_), .val (.int d_), .val (.int sel), .val (.int y4), .val (.int y8), .val (.ref b9), .val (.int v8_14), .unset, .unset, .val (.int y19), .val (.int y23)] [(.ref b24)] := r
    replace r : A0 l Z n0 D h26 2 4 66 #[.val (.int a_), .val (.int b_), .val (.int c_), .val (.int d_), .val (.int sel), .val (.int y4), .val (.int y8), .val (.ref b9), .val (.int v8_14), .val (.ref b24), .unset, .val (.int y19), .val (.int y23)] [] := Own.astore r at_64 rfl rfl
    replace r : A0 l Z n0 D h26 2 4 68 #[.val (.int a_), .val (.int b_), .val (.int c_), .val (.int d_), .val (.int sel), .val (.int y4), .val (.int y8), .val (.ref b9), .val (.int v8_14), .val (.ref b24), .unset, .val (.int y19), .val (.int y23)] [(.int y4)] := Own.iload r at_66 rfl
    replace r : A0 l Z n0 D h26 2 4 70 #[.val (.int a_), .val (.int b_), .val (.int c_), .val (.int d_), .val (.int sel), .val (.int y4), .val (.int y8), .val (.ref b9), .val (.int v8_14), .val (.ref b24), .unset, .val (.int y19), .val (.int y23)] [(.int y19), (.int y4)] := Own.iload r at_68 rfl
    obtain ⟨m29, e_m29, r⟩ : ∃ (m29 : Int32), m29 = (if y4 = y19 then (if y8 = y23 then (1 : Int32) else (0 : Int32)) else (0 : Int32)) ∧ A0 l Z n0 D h26 2 4 85 #[.val (.int a_), .val (.int b_), .val (.int c_), .val (.int d_), .val (.int sel), .val (.int y4), .val (.int y8), .val (.ref b9), .val (.int v8_14), .val (.ref b24), .unset, .val (.int y19), .val (.int y23)] [(.int m29)] := by
      by_cases br30 : y4 = y19
      · skip
        replace r : A0 l Z n0 D h26 2 4 73 #[.val (.int a_), .val (.int b_), .val (.int c_), .val (.int d_), .val (.int sel), .val (.int y4), .val (.int y8), .val (.ref b9), .val (.int v8_14), .val (.ref b24), .unset, .val (.int y19), .val (.int y23)] [] := Own.icmpNo r at_70 (teq br30).2
        replace r : A0 l Z n0 D h26 2 4 75 #[.val (.int a_), .val (.int b_), .val (.int c_), .val (.int d_), .val (.int sel), .val (.int y4), .val (.int y8), .val (.ref b9), .val (.int v8_14), .val (.ref b24), .unset, .val (.int y19), .val (.int y23)] [(.int y8)] := Own.iload r at_73 rfl
        replace r : A0 l Z n0 D h26 2 4 77 #[.val (.int a_), .val (.int b_), .val (.int c_), .val (.int d_), .val (.int sel), .val (.int y4), .val (.int y8), .val (.ref b9), .val (.int v8_14), .val (.ref b24), .unset, .val (.int y19), .val (.int y23)] [(.int y23), (.int y8)] := Own.iload r at_75 rfl
        by_cases br31 : y8 = y23
        · skip
          replace r : A0 l Z n0 D h26 2 4 80 #[.val (.int a_), .val (.int b_), .val (.int c_), .val (.int d_), .val (.int sel), .val (.int y4), .val (.int y8), .val (.ref b9), .val (.int v8_14), .val (.ref b24), .unset, .val (.int y19), .val (.int y23)] [] := Own.icmpNo r at_77 (teq br31).2
          replace r : A0 l Z n0 D h26 2 4 81 #[.val (.int a_), .val (.int b_), .val (.int c_), .val (.int d_), .val (.int sel), .val (.int y4), .val (.int y8), .val (.ref b9), .val (.int v8_14), .val (.ref b24), .unset, .val (.int y19), .val (.int y23)] [(.int (1 : Int32))] := Own.iconst r at_80 rfl
          replace r : A0 l Z n0 D h26 2 4 85 #[.val (.int a_), .val (.int b_), .val (.int c_), .val (.int d_), .val (.int sel), .val (.int y4), .val (.int y8), .val (.ref b9), .val (.int v8_14), .val (.ref b24), .unset, .val (.int y19), .val (.int y23)] [(.int (1 : Int32))] := Own.goto r at_81 (by decide) (by decide)
          exact ⟨_, by rw [if_pos br30, if_pos br31], r⟩
        · skip
          replace r : A0 l Z n0 D h26 2 4 84 #[.val (.int a_), .val (.int b_), .val (.int c_), .val (.int d_), .val (.int sel), .val (.int y4), .val (.int y8), .val (.ref b9), .val (.int v8_14), .val (.ref b24), .unset, .val (.int y19), .val (.int y23)] [] := Own.icmpYes r at_77 (feq br31).2 (by decide) (by decide)
          replace r : A0 l Z n0 D h26 2 4 85 #[.val (.int a_), .val (.int b_), .val (.int c_), .val (.int d_), .val (.int sel), .val (.int y4), .val (.int y8), .val (.ref b9), .val (.int v8_14), .val (.ref b24), .unset, .val (.int y19), .val (.int y23)] [(.int (0 : Int32))] := Own.iconst r at_84 rfl
          exact ⟨_, by rw [if_pos br30, if_neg br31], r⟩
      · skip
        replace r : A0 l Z n0 D h26 2 4 84 #[.val (.int a_), .val (.int b_), .val (.int c_), .val (.int d_), .val (.int sel), .val (.int y4), .val (.int y8), .val (.ref b9), .val (.int v8_14), .val (.ref b24), .unset, .val (.int y19), .val (.int y23)] [] := Own.icmpYes r at_70 (feq br30).2 (by decide) (by decide)
        replace r : A0 l Z n0 D h26 2 4 85 #[.val (.int a_), .val (.int b_), .val (.int c_), .val (.int d_), .val (.int sel), .val (.int y4), .val (.int y8), .val (.ref b9), .val (.int v8_14), .val (.ref b24), .unset, .val (.int y19), .val (.int y23)] [(.int (0 : Int32))] := Own.iconst r at_84 rfl
        exact ⟨_, by rw [if_neg br30], r⟩
    replace r : A0 l Z n0 D h26 2 4 87 #[.val (.int a_), .val (.int b_), .val (.int c_), .val (.int d_), .val (.int sel), .val (.int y4), .val (.int y8), .val (.ref b9), .val (.int v8_14), .val (.ref b24), .val (.int m29), .val (.int y19), .val (.int y23)] [] := Own.istore r at_85 rfl
    replace r : A0 l Z n0 D h26 2 4 281 #[.val (.int a_), .val (.int b_), .val (.int c_), .val (.int d_), .val (.int sel), .val (.int y4), .val (.int y8), .val (.ref b9), .val (.int v8_14), .val (.ref b24), .val (.int m29), .val (.int y19), .val (.int y23)] [] := Own.goto r at_87 (by decide) (by decide)
    replace r : A0 l Z n0 D h26 2 4 283 #[.val (.int a_), .val (.int b_), .val (.int c_), .val (.int d_), .val (.int sel), .val (.int y4), .val (.int y8), .val (.ref b9), .val (.int v8_14), .val (.ref b24), .val (.int m29), .val (.int y19), .val (.int y23)] [(.ref b9)] := Own.aload r at_281 rfl rfl
    replace r : A0 l Z n0 D h26 2 4 285 #[.val (.int a_), .val (.int b_), .val (.int c_), .val (.int d_), .val (.int sel), .val (.int y4), .val (.int y8), .val (.ref b9), .val (.int v8_14), .val (.ref b24), .val (.int m29), .val (.int y19), .val (.int y23)] [(.ref b24), (.ref b9)] := Own.aload r at_283 rfl rfl
    obtain ⟨rv32, h33, hQ34, r⟩ := Own.callV [(.ref b24)] r at_285 (c5 l Z a0 hw n0 h26 Zs b9 b24 y4 y8 y19 y23 F_min_b9 F_max_b9 F_min_b24 F_max_b24 X_b24) X_b9 (hw _ (List.mem_of_getElem? (i := 20) rfl)) (hw _ (List.mem_of_getElem? (i := 21) rfl)) (Own.nfS (hw _ (List.mem_of_getElem? (i := 23) rfl))) (hw _ (List.mem_of_getElem? (i := 23) rfl)) (hw _ (List.mem_of_getElem? (i := 22) rfl)) (hw _ (List.mem_of_getElem? (i := 9) rfl)) (hw _ (List.mem_of_getElem? (i := 24) rfl)) (lenOf pd_0_2 rfl) rfl rfl (W := 0) (Nat.le_of_eq rfl) rfl (by decide) (by decide) (by decide) (by decide) (by decide)
    obtain ⟨rfl, y35, rfl, e_y35⟩ := hQ34
    replace r : A0 l Z n0 D h26 2 4 288 #[.val (.int a_), .val (.int b_), .val (.int c_), .val (.int d_), .val (.int sel), .val (.int y4), .val (.int y8), .val (.ref b9), .val (.int v8_14), .val (.ref b24), .val (.int m29), .val (.int y19), .val (.int y23)] [(.int y35)] := r
    replace r : A0 l Z n0 D h26 2 4 290 #[.val (.int a_), .val (.int b_), .val (.int c_), .val (.int d_), .val (.int sel), .val (.int y4), .val (.int y8), .val (.ref b9), .val (.int v8_14), .val (.ref b24), .val (.int m29), .val (.int y19), .val (.int y23)] [(.int m29), (.int y35)] := Own.iload r at_288 rfl
    replace r : A0 l Z n0 D h26 2 4 293 #[.val (.int a_), .val (.int b_), .val (.int c_), .val (.int d_), .val (.int sel), .val (.int y4), .val (.int y8), .val (.ref b9), .val (.int v8_14), .val (.ref b24), .val (.int m29), .val (.int y19), .val (.int y23)] [] := Own.icmpNo r at_290 (teq (own_0 e_y35 e_m29)).2
    replace r : A0 l Z n0 D h26 2 4 294 #[.val (.int a_), .val (.int b_), .val (.int c_), .val (.int d_), .val (.int sel), .val (.int y4), .val (.int y8), .val (.ref b9), .val (.int v8_14), .val (.ref b24), .val (.int m29), .val (.int y19), .val (.int y23)] [(.int (1 : Int32))] := Own.iconst r at_293 rfl
    replace r : A0 l Z n0 D h26 2 4 298 #[.val (.int a_), .val (.int b_), .val (.int c_), .val (.int d_), .val (.int sel), .val (.int y4), .val (.int y8), .val (.ref b9), .val (.int v8_14), .val (.ref b24), .val (.int m29), .val (.int y19), .val (.int y23)] [(.int (1 : Int32))] := Own.goto r at_294 (by decide) (by decide)
    exact ⟨_, _, (Own.Rch.retZ (y := x) (bytes := code) (mx := maxLocals) r at_298 (by decide)).more (by decide) (by decide), rfl⟩
  · skip
    replace r : A0 l Z n0 D h11 1 2 90 #[.val (.int a_), .val (.int b_), .val (.int c_), .val (.int d_), .val (.int sel), .val (.int y4), .val (.int y8), .val (.ref b9), .val (.int v8_14), .unset, .unset, .unset, .unset] [] := Own.ifYes r at_36 ((if0 _ _).trans (feq br15).2) (by decide) (by decide)
    replace r : A0 l Z n0 D h11 1 2 92 #[.val (.int a_), .val (.int b_), .val (.int c_), .val (.int d_), .val (.int sel), .val (.int y4), .val (.int y8), .val (.ref b9), .val (.int v8_14), .unset, .unset, .unset, .unset] [(.int v8_14)] := Own.iload r at_90 rfl
    replace r : A0 l Z n0 D h11 1 2 93 #[.val (.int a_), .val (.int b_), .val (.int c_), .val (.int d_), .val (.int sel), .val (.int y4), .val (.int y8), .val (.ref b9), .val (.int v8_14), .unset, .unset, .unset, .unset] [(.int (1 : Int32)), (.int v8_14)] := Own.iconst r at_92 rfl
    by_cases br36 : v8_14 = (1 : Int32)
    · skip
      replace r : A0 l Z n0 D h11 1 2 96 #[.val (.int a_), .val (.int b_), .val (.int c_), .val (.int d_), .val (.int sel), .val (.int y4), .val (.int y8), .val (.ref b9), .val (.int v8_14), .unset, .unset, .unset, .unset] [] := Own.icmpNo r at_93 (teq br36).2
      replace r : A0 l Z n0 D h11 1 2 98 #[.val (.int a_), .val (.int b_), .val (.int c_), .val (.int d_), .val (.int sel), .val (.int y4), .val (.int y8), .val (.ref b9), .val (.int v8_14), .unset, .unset, .unset, .unset] [(.int y4)] := Own.iload r at_96 rfl
      replace r : A0 l Z n0 D h11 1 2 99 #[.val (.int a_), .val (.int b_), .val (.int c_), .val (.int d_), .val (.int sel), .val (.int y4), .val (.int y8), .val (.ref b9), .val (.int v8_14), .unset, .unset, .unset, .unset] [(.int c_), (.int y4)] := Own.iloadN r at_98 rfl
      obtain ⟨rv37, h38, hQ39, r⟩ := Own.callS [(.int y4), (.int c_)] r at_99 (c2 l Z a0 hw n0 h11 Zs y4 c_) (hw _ (List.mem_of_getElem? (i := 4) rfl)) (hw _ (List.mem_of_getElem? (i := 5) rfl)) (hw _ (List.mem_of_getElem? (i := 2) rfl)) (hw _ (List.mem_of_getElem? (i := 6) rfl)) (lenOf pd_0_0 rfl) rfl rfl (W := 0) (Nat.le_of_eq rfl) rfl (by decide) (by decide) (by decide) (by decide) (by decide)
      obtain ⟨rfl, y40, rfl, e_y40⟩ := hQ39
      replace r : A0 l Z n0 D h11 1 2 102 #[.val (.int a_), .val (.int b_), .val (.int c_), .val (.int d_), .val (.int sel), .val (.int y4), .val (.int y8), .val (.ref b9), .val (.int v8_14), .unset, .unset, .unset, .unset] [(.int y40)] := r
      replace r : A0 l Z n0 D h11 1 2 104 #[.val (.int a_), .val (.int b_), .val (.int c_), .val (.int d_), .val (.int sel), .val (.int y4), .val (.int y8), .val (.ref b9), .val (.int v8_14), .unset, .unset, .val (.int y40), .unset] [] := Own.istore r at_102 rfl
      obtain ⟨h41, ⟨E41, X_b41, D41⟩, r⟩ := Own.newObj r at_104 (hw _ (List.mem_of_getElem? (i := 7) rfl)) (hw _ (List.mem_of_getElem? (i := 8) rfl)) (hw _ (List.mem_of_getElem? (i := 9) rfl)) (by decide) (by decide)
      obtain ⟨b41, g41⟩ : ∃ z, z = h11.size := ⟨_, rfl⟩
      rw [← g41] at X_b41 D41 r
      have ge_b41 : n0 ≤ b41 := Nat.le_trans Zs (Nat.le_of_eq g41.symm)
      have ne_b9_b41 : b9 ≠ b41 := Own.ne_lt X_b9.lt g41
      replace O := O.ext E41
      replace X_b9 := X_b9.ext E41
      replace F_min_b9 := F_min_b9.ext E41
      replace F_max_b9 := F_max_b9.ext E41
      replace Zs := Nat.le_trans Zs E41.1
      replace r : A0 l Z n0 D h41 2 4 107 #[.val (.int a_), .val (.int b_), .val (.int c_), .val (.int d_), .val (.int sel), .val (.int y4), .val (.int y8), .val (.ref b9), .val (.int v8_14), .unset, .unset, .val (.int y40), .unset] [(.ref b41)] := r
      have F_min_b41 : Fld Z h41 b41 "com/example/ref_access_rules/refaccessrules/rule/VoteRange" "min" "I" (.int (0 : Int32)) := D41 (Or.inr (hw _ (List.mem_of_getElem? (i := 17) rfl))) (ty := .int) (by decide)
      have F_max_b41 : Fld Z h41 b41 "com/example/ref_access_rules/refaccessrules/rule/VoteRange" "max" "I" (.int (0 : Int32)) := D41 (Or.inr (hw _ (List.mem_of_getElem? (i := 19) rfl))) (ty := .int) (by decide)
      replace r : A0 l Z n0 D h41 2 4 108 #[.val (.int a_), .val (.int b_), .val (.int c_), .val (.int d_), .val (.int sel), .val (.int y4), .val (.int y8), .val (.ref b9), .val (.int v8_14), .unset, .unset, .val (.int y40), .unset] [(.ref b41), (.ref b41)] := Own.dup r at_107 rfl
      replace r : A0 l Z n0 D h41 2 4 110 #[.val (.int a_), .val (.int b_), .val (.int c_), .val (.int d_), .val (.int sel), .val (.int y4), .val (.int y8), .val (.ref b9), .val (.int v8_14), .unset, .unset, .val (.int y40), .unset] [(.int y4), (.ref b41), (.ref b41)] := Own.iload r at_108 rfl
      replace r : A0 l Z n0 D h41 2 4 112 #[.val (.int a_), .val (.int b_), .val (.int c_), .val (.int d_), .val (.int sel), .val (.int y4), .val (.int y8), .val (.ref b9), .val (.int v8_14), .unset, .unset, .val (.int y40), .unset] [(.int y40), (.int y4), (.ref b41), (.ref b41)] := Own.iload r at_110 rfl
      obtain ⟨rv42, h43, hQ44, r⟩ := Own.callI [(.int y4), (.int y40)] r at_112 (c3 l Z a0 hw n0 h41 Zs b41 y4 y40 _ _ F_min_b41 F_max_b41 X_b41 ge_b41 (own_le1 e_y40)) (hw _ (List.mem_of_getElem? (i := 10) rfl)) (hw _ (List.mem_of_getElem? (i := 11) rfl)) (hw _ (List.mem_of_getElem? (i := 9) rfl)) (hw _ (List.mem_of_getElem? (i := 12) rfl)) rfl (lenOf pd_0_1 rfl) rfl rfl (W := 1) (Nat.le_of_eq rfl) rfl (by decide) (by decide) (by decide) (by decide) (by decide)
      obtain ⟨rfl, K45, X_b41, F_min_b41, F_max_b41⟩ := hQ44
      replace O := O.keep K45 (allS ge_b41 all0)
      replace X_b9 := X_b9.keep K45
      replace F_min_b9 := F_min_b9.keep K45 (by simp [ne_b9_b41])
      replace F_max_b9 := F_max_b9.keep K45 (by simp [ne_b9_b41])
      replace Zs := Nat.le_trans Zs K45.1
      replace r : A0 l Z n0 D h43 2 4 115 #[.val (.int a_), .val (.int b_), .val (.int c_), .val (.int d_), .val (.int sel), .val (.int y4), .val (.int y8), .val (.ref b9), .val (.int v8_14), .unset, .unset, .val (.int y40), .unset] [(.ref b41)] := r
      replace r : A0 l Z n0 D h43 2 4 117 #[.val (.int a_), .val (.int b_), .val (.int c_), .val (.int d_), .val (.int sel), .val (.int y4), .val (.int y8), .val (.ref b9), .val (.int v8_14), .val (.ref b41), .unset, .val (.int y40), .unset] [] := Own.astore r at_115 rfl rfl
      replace r : A0 l Z n0 D h43 2 4 119 #[.val (.int a_), .val (.int b_), .val (.int c_), .val (.int d_), .val (.int sel), .val (.int y4), .val (.int y8), .val (.ref b9), .val (.int v8_14), .val (.ref b41), .unset, .val (.int y40), .unset] [(.int y40)] := Own.iload r at_117 rfl
      replace r : A0 l Z n0 D h43 2 4 121 #[.val (.int a_), .val (.int b_), .val (.int c_), .val (.int d_), .val (.int sel), .val (.int y4), .val (.int y8), .val (.ref b9), .val (.int v8_14), .val (.ref b41), .unset, .val (.int y40), .unset] [(.int y8), (.int y40)] := Own.iload r at_119 rfl
      obtain ⟨m46, e_m46, r⟩ : ∃ (m46 : Int32), m46 = (if y40 = y8 then (1 : Int32) else (0 : Int32)) ∧ A0 l Z n0 D h43 2 4 129 #[.val (.int a_), .val (.int b_), .val (.int c_), .val (.int d_), .val (.int sel), .val (.int y4), .val (.int y8), .val (.ref b9), .val (.int v8_14), .val (.ref b41), .unset, .val (.int y40), .unset] [(.int m46)] := by
        by_cases br47 : y40 = y8
        · skip
          replace r : A0 l Z n0 D h43 2 4 124 #[.val (.int a_), .val (.int b_), .val (.int c_), .val (.int d_), .val (.int sel), .val (.int y4), .val (.int y8), .val (.ref b9), .val (.int v8_14), .val (.ref b41), .unset, .val (.int y40), .unset] [] := Own.icmpNo r at_121 (teq br47).2
          replace r : A0 l Z n0 D h43 2 4 125 #[.val (.int a_), .val (.int b_), .val (.int c_), .val (.int d_), .val (.int sel), .val (.int y4), .val (.int y8), .val (.ref b9), .val (.int v8_14), .val (.ref b41), .unset, .val (.int y40), .unset] [(.int (1 : Int32))] := Own.iconst r at_124 rfl
          replace r : A0 l Z n0 D h43 2 4 129 #[.val (.int a_), .val (.int b_), .val (.int c_), .val (.int d_), .val (.int sel), .val (.int y4), .val (.int y8), .val (.ref b9), .val (.int v8_14), .val (.ref b41), .unset, .val (.int y40), .unset] [(.int (1 : Int32))] := Own.goto r at_125 (by decide) (by decide)
          exact ⟨_, by rw [if_pos br47], r⟩
        · skip
          replace r : A0 l Z n0 D h43 2 4 128 #[.val (.int a_), .val (.int b_), .val (.int c_), .val (.int d_), .val (.int sel), .val (.int y4), .val (.int y8), .val (.ref b9), .val (.int v8_14), .val (.ref b41), .unset, .val (.int y40), .unset] [] := Own.icmpYes r at_121 (feq br47).2 (by decide) (by decide)
          replace r : A0 l Z n0 D h43 2 4 129 #[.val (.int a_), .val (.int b_), .val (.int c_), .val (.int d_), .val (.int sel), .val (.int y4), .val (.int y8), .val (.ref b9), .val (.int v8_14), .val (.ref b41), .unset, .val (.int y40), .unset] [(.int (0 : Int32))] := Own.iconst r at_128 rfl
          exact ⟨_, by rw [if_neg br47], r⟩
      replace r : A0 l Z n0 D h43 2 4 131 #[.val (.int a_), .val (.int b_), .val (.int c_), .val (.int d_), .val (.int sel), .val (.int y4), .val (.int y8), .val (.ref b9), .val (.int v8_14), .val (.ref b41), .val (.int m46), .val (.int y40), .unset] [] := Own.istore r at_129 rfl
      replace r : A0 l Z n0 D h43 2 4 281 #[.val (.int a_), .val (.int b_), .val (.int c_), .val (.int d_), .val (.int sel), .val (.int y4), .val (.int y8), .val (.ref b9), .val (.int v8_14), .val (.ref b41), .val (.int m46), .val (.int y40), .unset] [] := Own.goto r at_131 (by decide) (by decide)
      replace r : A0 l Z n0 D h43 2 4 283 #[.val (.int a_), .val (.int b_), .val (.int c_), .val (.int d_), .val (.int sel), .val (.int y4), .val (.int y8), .val (.ref b9), .val (.int v8_14), .val (.ref b41), .val (.int m46), .val (.int y40), .unset] [(.ref b9)] := Own.aload r at_281 rfl rfl
      replace r : A0 l Z n0 D h43 2 4 285 #[.val (.int a_), .val (.int b_), .val (.int c_), .val (.int d_), .val (.int sel), .val (.int y4), .val (.int y8), .val (.ref b9), .val (.int v8_14), .val (.ref b41), .val (.int m46), .val (.int y40), .unset] [(.ref b41), (.ref b9)] := Own.aload r at_283 rfl rfl
      obtain ⟨rv48, h49, hQ50, r⟩ := Own.callV [(.ref b41)] r at_285 (c5 l Z a0 hw n0 h43 Zs b9 b41 y4 y8 y4 y40 F_min_b9 F_max_b9 F_min_b41 F_max_b41 X_b41) X_b9 (hw _ (List.mem_of_getElem? (i := 20) rfl)) (hw _ (List.mem_of_getElem? (i := 21) rfl)) (Own.nfS (hw _ (List.mem_of_getElem? (i := 23) rfl))) (hw _ (List.mem_of_getElem? (i := 23) rfl)) (hw _ (List.mem_of_getElem? (i := 22) rfl)) (hw _ (List.mem_of_getElem? (i := 9) rfl)) (hw _ (List.mem_of_getElem? (i := 24) rfl)) (lenOf pd_0_2 rfl) rfl rfl (W := 0) (Nat.le_of_eq rfl) rfl (by decide) (by decide) (by decide) (by decide) (by decide)
      obtain ⟨rfl, y51, rfl, e_y51⟩ := hQ50
      replace r : A0 l Z n0 D h43 2 4 288 #[.val (.int a_), .val (.int b_), .val (.int c_), .val (.int d_), .val (.int sel), .val (.int y4), .val (.int y8), .val (.ref b9), .val (.int v8_14), .val (.ref b41), .val (.int m46), .val (.int y40), .unset] [(.int y51)] := r
      replace r : A0 l Z n0 D h43 2 4 290 #[.val (.int a_), .val (.int b_), .val (.int c_), .val (.int d_), .val (.int sel), .val (.int y4), .val (.int y8), .val (.ref b9), .val (.int v8_14), .val (.ref b41), .val (.int m46), .val (.int y40), .unset] [(.int m46), (.int y51)] := Own.iload r at_288 rfl
      replace r : A0 l Z n0 D h43 2 4 293 #[.val (.int a_), .val (.int b_), .val (.int c_), .val (.int d_), .val (.int sel), .val (.int y4), .val (.int y8), .val (.ref b9), .val (.int v8_14), .val (.ref b41), .val (.int m46), .val (.int y40), .unset] [] := Own.icmpNo r at_290 (teq (own_1 e_y51 e_m46)).2
      replace r : A0 l Z n0 D h43 2 4 294 #[.val (.int a_), .val (.int b_), .val (.int c_), .val (.int d_), .val (.int sel), .val (.int y4), .val (.int y8), .val (.ref b9), .val (.int v8_14), .val (.ref b41), .val (.int m46), .val (.int y40), .unset] [(.int (1 : Int32))] := Own.iconst r at_293 rfl
      replace r : A0 l Z n0 D h43 2 4 298 #[.val (.int a_), .val (.int b_), .val (.int c_), .val (.int d_), .val (.int sel), .val (.int y4), .val (.int y8), .val (.ref b9), .val (.int v8_14), .val (.ref b41), .val (.int m46), .val (.int y40), .unset] [(.int (1 : Int32))] := Own.goto r at_294 (by decide) (by decide)
      exact ⟨_, _, (Own.Rch.retZ (y := x) (bytes := code) (mx := maxLocals) r at_298 (by decide)).more (by decide) (by decide), rfl⟩
    · skip
      replace r : A0 l Z n0 D h11 1 2 134 #[.val (.int a_), .val (.int b_), .val (.int c_), .val (.int d_), .val (.int sel), .val (.int y4), .val (.int y8), .val (.ref b9), .val (.int v8_14), .unset, .unset, .unset, .unset] [] := Own.icmpYes r at_93 (feq br36).2 (by decide) (by decide)
      replace r : A0 l Z n0 D h11 1 2 136 #[.val (.int a_), .val (.int b_), .val (.int c_), .val (.int d_), .val (.int sel), .val (.int y4), .val (.int y8), .val (.ref b9), .val (.int v8_14), .unset, .unset, .unset, .unset] [(.int v8_14)] := Own.iload r at_134 rfl
      replace r : A0 l Z n0 D h11 1 2 137 #[.val (.int a_), .val (.int b_), .val (.int c_), .val (.int d_), .val (.int sel), .val (.int y4), .val (.int y8), .val (.ref b9), .val (.int v8_14), .unset, .unset, .unset, .unset] [(.int (2 : Int32)), (.int v8_14)] := Own.iconst r at_136 rfl
      by_cases br52 : v8_14 = (2 : Int32)
      · skip
        replace r : A0 l Z n0 D h11 1 2 140 #[.val (.int a_), .val (.int b_), .val (.int c_), .val (.int d_), .val (.int sel), .val (.int y4), .val (.int y8), .val (.ref b9), .val (.int v8_14), .unset, .unset, .unset, .unset] [] := Own.icmpNo r at_137 (teq br52).2
        replace r : A0 l Z n0 D h11 1 2 142 #[.val (.int a_), .val (.int b_), .val (.int c_), .val (.int d_), .val (.int sel), .val (.int y4), .val (.int y8), .val (.ref b9), .val (.int v8_14), .unset, .unset, .unset, .unset] [(.int y8)] := Own.iload r at_140 rfl
        replace r : A0 l Z n0 D h11 1 2 143 #[.val (.int a_), .val (.int b_), .val (.int c_), .val (.int d_), .val (.int sel), .val (.int y4), .val (.int y8), .val (.ref b9), .val (.int v8_14), .unset, .unset, .unset, .unset] [(.int c_), (.int y8)] := Own.iloadN r at_142 rfl
        obtain ⟨rv53, h54, hQ55, r⟩ := Own.callS [(.int y8), (.int c_)] r at_143 (c1 l Z a0 hw n0 h11 Zs y8 c_) (hw _ (List.mem_of_getElem? (i := 0) rfl)) (hw _ (List.mem_of_getElem? (i := 1) rfl)) (hw _ (List.mem_of_getElem? (i := 2) rfl)) (hw _ (List.mem_of_getElem? (i := 3) rfl)) (lenOf pd_0_0 rfl) rfl rfl (W := 0) (Nat.le_of_eq rfl) rfl (by decide) (by decide) (by decide) (by decide) (by decide)
        obtain ⟨rfl, y56, rfl, e_y56⟩ := hQ55
        replace r : A0 l Z n0 D h11 1 2 146 #[.val (.int a_), .val (.int b_), .val (.int c_), .val (.int d_), .val (.int sel), .val (.int y4), .val (.int y8), .val (.ref b9), .val (.int v8_14), .unset, .unset, .unset, .unset] [(.int y56)] := r
        replace r : A0 l Z n0 D h11 1 2 148 #[.val (.int a_), .val (.int b_), .val (.int c_), .val (.int d_), .val (.int sel), .val (.int y4), .val (.int y8), .val (.ref b9), .val (.int v8_14), .unset, .unset, .val (.int y56), .unset] [] := Own.istore r at_146 rfl
        obtain ⟨h57, ⟨E57, X_b57, D57⟩, r⟩ := Own.newObj r at_148 (hw _ (List.mem_of_getElem? (i := 7) rfl)) (hw _ (List.mem_of_getElem? (i := 8) rfl)) (hw _ (List.mem_of_getElem? (i := 9) rfl)) (by decide) (by decide)
        obtain ⟨b57, g57⟩ : ∃ z, z = h11.size := ⟨_, rfl⟩
        rw [← g57] at X_b57 D57 r
        have ge_b57 : n0 ≤ b57 := Nat.le_trans Zs (Nat.le_of_eq g57.symm)
        have ne_b9_b57 : b9 ≠ b57 := Own.ne_lt X_b9.lt g57
        replace O := O.ext E57
        replace X_b9 := X_b9.ext E57
        replace F_min_b9 := F_min_b9.ext E57
        replace F_max_b9 := F_max_b9.ext E57
        replace Zs := Nat.le_trans Zs E57.1
        replace r : A0 l Z n0 D h57 2 4 151 #[.val (.int a_), .val (.int b_), .val (.int c_), .val (.int d_), .val (.int sel), .val (.int y4), .val (.int y8), .val (.ref b9), .val (.int v8_14), .unset, .unset, .val (.int y56), .unset] [(.ref b57)] := r
        have F_min_b57 : Fld Z h57 b57 "com/example/ref_access_rules/refaccessrules/rule/VoteRange" "min" "I" (.int (0 : Int32)) := D57 (Or.inr (hw _ (List.mem_of_getElem? (i := 17) rfl))) (ty := .int) (by decide)
        have F_max_b57 : Fld Z h57 b57 "com/example/ref_access_rules/refaccessrules/rule/VoteRange" "max" "I" (.int (0 : Int32)) := D57 (Or.inr (hw _ (List.mem_of_getElem? (i := 19) rfl))) (ty := .int) (by decide)
        replace r : A0 l Z n0 D h57 2 4 152 #[.val (.int a_), .val (.int b_), .val (.int c_), .val (.int d_), .val (.int sel), .val (.int y4), .val (.int y8), .val (.ref b9), .val (.int v8_14), .unset, .unset, .val (.int y56), .unset] [(.ref b57), (.ref b57)] := Own.dup r at_151 rfl
        replace r : A0 l Z n0 D h57 2 4 154 #[.val (.int a_), .val (.int b_), .val (.int c_), .val (.int d_), .val (.int sel), .val (.int y4), .val (.int y8), .val (.ref b9), .val (.int v8_14), .unset, .unset, .val (.int y56), .unset] [(.int y56), (.ref b57), (.ref b57)] := Own.iload r at_152 rfl
        replace r : A0 l Z n0 D h57 2 4 156 #[.val (.int a_), .val (.int b_), .val (.int c_), .val (.int d_), .val (.int sel), .val (.int y4), .val (.int y8), .val (.ref b9), .val (.int v8_14), .unset, .unset, .val (.int y56), .unset] [(.int y8), (.int y56), (.ref b57), (.ref b57)] := Own.iload r at_154 rfl
        obtain ⟨rv58, h59, hQ60, r⟩ := Own.callI [(.int y56), (.int y8)] r at_156 (c3 l Z a0 hw n0 h57 Zs b57 y56 y8 _ _ F_min_b57 F_max_b57 X_b57 ge_b57 (own_le2 e_y56)) (hw _ (List.mem_of_getElem? (i := 10) rfl)) (hw _ (List.mem_of_getElem? (i := 11) rfl)) (hw _ (List.mem_of_getElem? (i := 9) rfl)) (hw _ (List.mem_of_getElem? (i := 12) rfl)) rfl (lenOf pd_0_1 rfl) rfl rfl (W := 1) (Nat.le_of_eq rfl) rfl (by decide) (by decide) (by decide) (by decide) (by decide)
        obtain ⟨rfl, K61, X_b57, F_min_b57, F_max_b57⟩ := hQ60
        replace O := O.keep K61 (allS ge_b57 all0)
        replace X_b9 := X_b9.keep K61
        replace F_min_b9 := F_min_b9.keep K61 (by simp [ne_b9_b57])
        replace F_max_b9 := F_max_b9.keep K61 (by simp [ne_b9_b57])
        replace Zs := Nat.le_trans Zs K61.1
        replace r : A0 l Z n0 D h59 2 4 159 #[.val (.int a_), .val (.int b_), .val (.int c_), .val (.int d_), .val (.int sel), .val (.int y4), .val (.int y8), .val (.ref b9), .val (.int v8_14), .unset, .unset, .val (.int y56), .unset] [(.ref b57)] := r
        replace r : A0 l Z n0 D h59 2 4 161 #[.val (.int a_), .val (.int b_), .val (.int c_), .val (.int d_), .val (.int sel), .val (.int y4), .val (.int y8), .val (.ref b9), .val (.int v8_14), .val (.ref b57), .unset, .val (.int y56), .unset] [] := Own.astore r at_159 rfl rfl
        replace r : A0 l Z n0 D h59 2 4 163 #[.val (.int a_), .val (.int b_), .val (.int c_), .val (.int d_), .val (.int sel), .val (.int y4), .val (.int y8), .val (.ref b9), .val (.int v8_14), .val (.ref b57), .unset, .val (.int y56), .unset] [(.int y56)] := Own.iload r at_161 rfl
        replace r : A0 l Z n0 D h59 2 4 165 #[.val (.int a_), .val (.int b_), .val (.int c_), .val (.int d_), .val (.int sel), .val (.int y4), .val (.int y8), .val (.ref b9), .val (.int v8_14), .val (.ref b57), .unset, .val (.int y56), .unset] [(.int y4), (.int y56)] := Own.iload r at_163 rfl
        obtain ⟨m62, e_m62, r⟩ : ∃ (m62 : Int32), m62 = (if y56 = y4 then (1 : Int32) else (0 : Int32)) ∧ A0 l Z n0 D h59 2 4 173 #[.val (.int a_), .val (.int b_), .val (.int c_), .val (.int d_), .val (.int sel), .val (.int y4), .val (.int y8), .val (.ref b9), .val (.int v8_14), .val (.ref b57), .unset, .val (.int y56), .unset] [(.int m62)] := by
          by_cases br63 : y56 = y4
          · skip
            replace r : A0 l Z n0 D h59 2 4 168 #[.val (.int a_), .val (.int b_), .val (.int c_), .val (.int d_), .val (.int sel), .val (.int y4), .val (.int y8), .val (.ref b9), .val (.int v8_14), .val (.ref b57), .unset, .val (.int y56), .unset] [] := Own.icmpNo r at_165 (teq br63).2
            replace r : A0 l Z n0 D h59 2 4 169 #[.val (.int a_), .val (.int b_), .val (.int c_), .val (.int d_), .val (.int sel), .val (.int y4), .val (.int y8), .val (.ref b9), .val (.int v8_14), .val (.ref b57), .unset, .val (.int y56), .unset] [(.int (1 : Int32))] := Own.iconst r at_168 rfl
            replace r : A0 l Z n0 D h59 2 4 173 #[.val (.int a_), .val (.int b_), .val (.int c_), .val (.int d_), .val (.int sel), .val (.int y4), .val (.int y8), .val (.ref b9), .val (.int v8_14), .val (.ref b57), .unset, .val (.int y56), .unset] [(.int (1 : Int32))] := Own.goto r at_169 (by decide) (by decide)
            exact ⟨_, by rw [if_pos br63], r⟩
          · skip
            replace r : A0 l Z n0 D h59 2 4 172 #[.val (.int a_), .val (.int b_), .val (.int c_), .val (.int d_), .val (.int sel), .val (.int y4), .val (.int y8), .val (.ref b9), .val (.int v8_14), .val (.ref b57), .unset, .val (.int y56), .unset] [] := Own.icmpYes r at_165 (feq br63).2 (by decide) (by decide)
            replace r : A0 l Z n0 D h59 2 4 173 #[.val (.int a_), .val (.int b_), .val (.int c_), .val (.int d_), .val (.int sel), .val (.int y4), .val (.int y8), .val (.ref b9), .val (.int v8_14), .val (.ref b57), .unset, .val (.int y56), .unset] [(.int (0 : Int32))] := Own.iconst r at_172 rfl
            exact ⟨_, by rw [if_neg br63], r⟩
        replace r : A0 l Z n0 D h59 2 4 175 #[.val (.int a_), .val (.int b_), .val (.int c_), .val (.int d_), .val (.int sel), .val (.int y4), .val (.int y8), .val (.ref b9), .val (.int v8_14), .val (.ref b57), .val (.int m62), .val (.int y56), .unset] [] := Own.istore r at_173 rfl
        replace r : A0 l Z n0 D h59 2 4 281 #[.val (.int a_), .val (.int b_), .val (.int c_), .val (.int d_), .val (.int sel), .val (.int y4), .val (.int y8), .val (.ref b9), .val (.int v8_14), .val (.ref b57), .val (.int m62), .val (.int y56), .unset] [] := Own.goto r at_175 (by decide) (by decide)
        replace r : A0 l Z n0 D h59 2 4 283 #[.val (.int a_), .val (.int b_), .val (.int c_), .val (.int d_), .val (.int sel), .val (.int y4), .val (.int y8), .val (.ref b9), .val (.int v8_14), .val (.ref b57), .val (.int m62), .val (.int y56), .unset] [(.ref b9)] := Own.aload r at_281 rfl rfl
        replace r : A0 l Z n0 D h59 2 4 285 #[.val (.int a_), .val (.int b_), .val (.int c_), .val (.int d_), .val (.int sel), .val (.int y4), .val (.int y8), .val (.ref b9), .val (.int v8_14), .val (.ref b57), .val (.int m62), .val (.int y56), .unset] [(.ref b57), (.ref b9)] := Own.aload r at_283 rfl rfl
        obtain ⟨rv64, h65, hQ66, r⟩ := Own.callV [(.ref b57)] r at_285 (c5 l Z a0 hw n0 h59 Zs b9 b57 y4 y8 y56 y8 F_min_b9 F_max_b9 F_min_b57 F_max_b57 X_b57) X_b9 (hw _ (List.mem_of_getElem? (i := 20) rfl)) (hw _ (List.mem_of_getElem? (i := 21) rfl)) (Own.nfS (hw _ (List.mem_of_getElem? (i := 23) rfl))) (hw _ (List.mem_of_getElem? (i := 23) rfl)) (hw _ (List.mem_of_getElem? (i := 22) rfl)) (hw _ (List.mem_of_getElem? (i := 9) rfl)) (hw _ (List.mem_of_getElem? (i := 24) rfl)) (lenOf pd_0_2 rfl) rfl rfl (W := 0) (Nat.le_of_eq rfl) rfl (by decide) (by decide) (by decide) (by decide) (by decide)
        obtain ⟨rfl, y67, rfl, e_y67⟩ := hQ66
        replace r : A0 l Z n0 D h59 2 4 288 #[.val (.int a_), .val (.int b_), .val (.int c_), .val (.int d_), .val (.int sel), .val (.int y4), .val (.int y8), .val (.ref b9), .val (.int v8_14), .val (.ref b57), .val (.int m62), .val (.int y56), .unset] [(.int y67)] := r
        replace r : A0 l Z n0 D h59 2 4 290 #[.val (.int a_), .val (.int b_), .val (.int c_), .val (.int d_), .val (.int sel), .val (.int y4), .val (.int y8), .val (.ref b9), .val (.int v8_14), .val (.ref b57), .val (.int m62), .val (.int y56), .unset] [(.int m62), (.int y67)] := Own.iload r at_288 rfl
        replace r : A0 l Z n0 D h59 2 4 293 #[.val (.int a_), .val (.int b_), .val (.int c_), .val (.int d_), .val (.int sel), .val (.int y4), .val (.int y8), .val (.ref b9), .val (.int v8_14), .val (.ref b57), .val (.int m62), .val (.int y56), .unset] [] := Own.icmpNo r at_290 (teq (own_2 e_y67 e_m62)).2
        replace r : A0 l Z n0 D h59 2 4 294 #[.val (.int a_), .val (.int b_), .val (.int c_), .val (.int d_), .val (.int sel), .val (.int y4), .val (.int y8), .val (.ref b9), .val (.int v8_14), .val (.ref b57), .val (.int m62), .val (.int y56), .unset] [(.int (1 : Int32))] := Own.iconst r at_293 rfl
        replace r : A0 l Z n0 D h59 2 4 298 #[.val (.int a_), .val (.int b_), .val (.int c_), .val (.int d_), .val (.int sel), .val (.int y4), .val (.int y8), .val (.ref b9), .val (.int v8_14), .val (.ref b57), .val (.int m62), .val (.int y56), .unset] [(.int (1 : Int32))] := Own.goto r at_294 (by decide) (by decide)
        exact ⟨_, _, (Own.Rch.retZ (y := x) (bytes := code) (mx := maxLocals) r at_298 (by decide)).more (by decide) (by decide), rfl⟩
      · skip
        replace r : A0 l Z n0 D h11 1 2 178 #[.val (.int a_), .val (.int b_), .val (.int c_), .val (.int d_), .val (.int sel), .val (.int y4), .val (.int y8), .val (.ref b9), .val (.int v8_14), .unset, .unset, .unset, .unset] [] := Own.icmpYes r at_137 (feq br52).2 (by decide) (by decide)
        replace r : A0 l Z n0 D h11 1 2 180 #[.val (.int a_), .val (.int b_), .val (.int c_), .val (.int d_), .val (.int sel), .val (.int y4), .val (.int y8), .val (.ref b9), .val (.int v8_14), .unset, .unset, .unset, .unset] [(.int v8_14)] := Own.iload r at_178 rfl
        replace r : A0 l Z n0 D h11 1 2 181 #[.val (.int a_), .val (.int b_), .val (.int c_), .val (.int d_), .val (.int sel), .val (.int y4), .val (.int y8), .val (.ref b9), .val (.int v8_14), .unset, .unset, .unset, .unset] [(.int (3 : Int32)), (.int v8_14)] := Own.iconst r at_180 rfl
        by_cases br68 : v8_14 = (3 : Int32)
        · skip
          replace r : A0 l Z n0 D h11 1 2 184 #[.val (.int a_), .val (.int b_), .val (.int c_), .val (.int d_), .val (.int sel), .val (.int y4), .val (.int y8), .val (.ref b9), .val (.int v8_14), .unset, .unset, .unset, .unset] [] := Own.icmpNo r at_181 (teq br68).2
          obtain ⟨h69, ⟨E69, X_b69, D69⟩, r⟩ := Own.newObj r at_184 (hw _ (List.mem_of_getElem? (i := 7) rfl)) (hw _ (List.mem_of_getElem? (i := 8) rfl)) (hw _ (List.mem_of_getElem? (i := 9) rfl)) (by decide) (by decide)
          obtain ⟨b69, g69⟩ : ∃ z, z = h11.size := ⟨_, rfl⟩
          rw [← g69] at X_b69 D69 r
          have ge_b69 : n0 ≤ b69 := Nat.le_trans Zs (Nat.le_of_eq g69.symm)
          have ne_b9_b69 : b9 ≠ b69 := Own.ne_lt X_b9.lt g69
          replace O := O.ext E69
          replace X_b9 := X_b9.ext E69
          replace F_min_b9 := F_min_b9.ext E69
          replace F_max_b9 := F_max_b9.ext E69
          replace Zs := Nat.le_trans Zs E69.1
          replace r : A0 l Z n0 D h69 2 4 187 #[.val (.int a_), .val (.int b_), .val (.int c_), .val (.int d_), .val (.int sel), .val (.int y4), .val (.int y8), .val (.ref b9), .val (.int v8_14), .unset, .unset, .unset, .unset] [(.ref b69)] := r
          have F_min_b69 : Fld Z h69 b69 "com/example/ref_access_rules/refaccessrules/rule/VoteRange" "min" "I" (.int (0 : Int32)) := D69 (Or.inr (hw _ (List.mem_of_getElem? (i := 17) rfl))) (ty := .int) (by decide)
          have F_max_b69 : Fld Z h69 b69 "com/example/ref_access_rules/refaccessrules/rule/VoteRange" "max" "I" (.int (0 : Int32)) := D69 (Or.inr (hw _ (List.mem_of_getElem? (i := 19) rfl))) (ty := .int) (by decide)
          replace r : A0 l Z n0 D h69 2 4 188 #[.val (.int a_), .val (.int b_), .val (.int c_), .val (.int d_), .val (.int sel), .val (.int y4), .val (.int y8), .val (.ref b9), .val (.int v8_14), .unset, .unset, .unset, .unset] [(.ref b69), (.ref b69)] := Own.dup r at_187 rfl
          replace r : A0 l Z n0 D h69 2 4 190 #[.val (.int a_), .val (.int b_), .val (.int c_), .val (.int d_), .val (.int sel), .val (.int y4), .val (.int y8), .val (.ref b9), .val (.int v8_14), .unset, .unset, .unset, .unset] [(.int y4), (.ref b69), (.ref b69)] := Own.iload r at_188 rfl
          replace r : A0 l Z n0 D h69 2 4 192 #[.val (.int a_), .val (.int b_), .val (.int c_), .val (.int d_), .val (.int sel), .val (.int y4), .val (.int y8), .val (.ref b9), .val (.int v8_14), .unset, .unset, .unset, .unset] [(.int y8), (.int y4), (.ref b69), (.ref b69)] := Own.iload r at_190 rfl
          obtain ⟨rv70, h71, hQ72, r⟩ := Own.callI [(.int y4), (.int y8)] r at_192 (c3 l Z a0 hw n0 h69 Zs b69 y4 y8 _ _ F_min_b69 F_max_b69 X_b69 ge_b69 (own_le e_y4 e_y8)) (hw _ (List.mem_of_getElem? (i := 10) rfl)) (hw _ (List.mem_of_getElem? (i := 11) rfl)) (hw _ (List.mem_of_getElem? (i := 9) rfl)) (hw _ (List.mem_of_getElem? (i := 12) rfl)) rfl (lenOf pd_0_1 rfl) rfl rfl (W := 1) (Nat.le_of_eq rfl) rfl (by decide) (by decide) (by decide) (by decide) (by decide)
          obtain ⟨rfl, K73, X_b69, F_min_b69, F_max_b69⟩ := hQ72
          replace O := O.keep K73 (allS ge_b69 all0)
          replace X_b9 := X_b9.keep K73
          replace F_min_b9 := F_min_b9.keep K73 (by simp [ne_b9_b69])
          replace F_max_b9 := F_max_b9.keep K73 (by simp [ne_b9_b69])
          replace Zs := Nat.le_trans Zs K73.1
          replace r : A0 l Z n0 D h71 2 4 195 #[.val (.int a_), .val (.int b_), .val (.int c_), .val (.int d_), .val (.int sel), .val (.int y4), .val (.int y8), .val (.ref b9), .val (.int v8_14), .unset, .unset, .unset, .unset] [(.ref b69)] := r
          replace r : A0 l Z n0 D h71 2 4 197 #[.val (.int a_), .val (.int b_), .val (.int c_), .val (.int d_), .val (.int sel), .val (.int y4), .val (.int y8), .val (.ref b9), .val (.int v8_14), .val (.ref b69), .unset, .unset, .unset] [] := Own.astore r at_195 rfl rfl
          replace r : A0 l Z n0 D h71 2 4 198 #[.val (.int a_), .val (.int b_), .val (.int c_), .val (.int d_), .val (.int sel), .val (.int y4), .val (.int y8), .val (.ref b9), .val (.int v8_14), .val (.ref b69), .unset, .unset, .unset] [(.int (1 : Int32))] := Own.iconst r at_197 rfl
          replace r : A0 l Z n0 D h71 2 4 200 #[.val (.int a_), .val (.int b_), .val (.int c_), .val (.int d_), .val (.int sel), .val (.int y4), .val (.int y8), .val (.ref b9), .val (.int v8_14), .val (.ref b69), .val (.int (1 : Int32)), .unset, .unset] [] := Own.istore r at_198 rfl
          replace r : A0 l Z n0 D h71 2 4 281 #[.val (.int a_), .val (.int b_), .val (.int c_), .val (.int d_), .val (.int sel), .val (.int y4), .val (.int y8), .val (.ref b9), .val (.int v8_14), .val (.ref b69), .val (.int (1 : Int32)), .unset, .unset] [] := Own.goto r at_200 (by decide) (by decide)
          replace r : A0 l Z n0 D h71 2 4 283 #[.val (.int a_), .val (.int b_), .val (.int c_), .val (.int d_), .val (.int sel), .val (.int y4), .val (.int y8), .val (.ref b9), .val (.int v8_14), .val (.ref b69), .val (.int (1 : Int32)), .unset, .unset] [(.ref b9)] := Own.aload r at_281 rfl rfl
          replace r : A0 l Z n0 D h71 2 4 285 #[.val (.int a_), .val (.int b_), .val (.int c_), .val (.int d_), .val (.int sel), .val (.int y4), .val (.int y8), .val (.ref b9), .val (.int v8_14), .val (.ref b69), .val (.int (1 : Int32)), .unset, .unset] [(.ref b69), (.ref b9)] := Own.aload r at_283 rfl rfl
          obtain ⟨rv74, h75, hQ76, r⟩ := Own.callV [(.ref b69)] r at_285 (c5 l Z a0 hw n0 h71 Zs b9 b69 y4 y8 y4 y8 F_min_b9 F_max_b9 F_min_b69 F_max_b69 X_b69) X_b9 (hw _ (List.mem_of_getElem? (i := 20) rfl)) (hw _ (List.mem_of_getElem? (i := 21) rfl)) (Own.nfS (hw _ (List.mem_of_getElem? (i := 23) rfl))) (hw _ (List.mem_of_getElem? (i := 23) rfl)) (hw _ (List.mem_of_getElem? (i := 22) rfl)) (hw _ (List.mem_of_getElem? (i := 9) rfl)) (hw _ (List.mem_of_getElem? (i := 24) rfl)) (lenOf pd_0_2 rfl) rfl rfl (W := 0) (Nat.le_of_eq rfl) rfl (by decide) (by decide) (by decide) (by decide) (by decide)
          obtain ⟨rfl, y77, rfl, e_y77⟩ := hQ76
          replace r : A0 l Z n0 D h71 2 4 288 #[.val (.int a_), .val (.int b_), .val (.int c_), .val (.int d_), .val (.int sel), .val (.int y4), .val (.int y8), .val (.ref b9), .val (.int v8_14), .val (.ref b69), .val (.int (1 : Int32)), .unset, .unset] [(.int y77)] := r
          replace r : A0 l Z n0 D h71 2 4 290 #[.val (.int a_), .val (.int b_), .val (.int c_), .val (.int d_), .val (.int sel), .val (.int y4), .val (.int y8), .val (.ref b9), .val (.int v8_14), .val (.ref b69), .val (.int (1 : Int32)), .unset, .unset] [(.int (1 : Int32)), (.int y77)] := Own.iload r at_288 rfl
          replace r : A0 l Z n0 D h71 2 4 293 #[.val (.int a_), .val (.int b_), .val (.int c_), .val (.int d_), .val (.int sel), .val (.int y4), .val (.int y8), .val (.ref b9), .val (.int v8_14), .val (.ref b69), .val (.int (1 : Int32)), .unset, .unset] [] := Own.icmpNo r at_290 (teq (own_s e_y77)).2
          replace r : A0 l Z n0 D h71 2 4 294 #[.val (.int a_), .val (.int b_), .val (.int c_), .val (.int d_), .val (.int sel), .val (.int y4), .val (.int y8), .val (.ref b9), .val (.int v8_14), .val (.ref b69), .val (.int (1 : Int32)), .unset, .unset] [(.int (1 : Int32))] := Own.iconst r at_293 rfl
          replace r : A0 l Z n0 D h71 2 4 298 #[.val (.int a_), .val (.int b_), .val (.int c_), .val (.int d_), .val (.int sel), .val (.int y4), .val (.int y8), .val (.ref b9), .val (.int v8_14), .val (.ref b69), .val (.int (1 : Int32)), .unset, .unset] [(.int (1 : Int32))] := Own.goto r at_294 (by decide) (by decide)
          exact ⟨_, _, (Own.Rch.retZ (y := x) (bytes := code) (mx := maxLocals) r at_298 (by decide)).more (by decide) (by decide), rfl⟩
        · skip
          replace r : A0 l Z n0 D h11 1 2 203 #[.val (.int a_), .val (.int b_), .val (.int c_), .val (.int d_), .val (.int sel), .val (.int y4), .val (.int y8), .val (.ref b9), .val (.int v8_14), .unset, .unset, .unset, .unset] [] := Own.icmpYes r at_181 (feq br68).2 (by decide) (by decide)
          replace r : A0 l Z n0 D h11 1 2 205 #[.val (.int a_), .val (.int b_), .val (.int c_), .val (.int d_), .val (.int sel), .val (.int y4), .val (.int y8), .val (.ref b9), .val (.int v8_14), .unset, .unset, .unset, .unset] [(.int v8_14)] := Own.iload r at_203 rfl
          replace r : A0 l Z n0 D h11 1 2 206 #[.val (.int a_), .val (.int b_), .val (.int c_), .val (.int d_), .val (.int sel), .val (.int y4), .val (.int y8), .val (.ref b9), .val (.int v8_14), .unset, .unset, .unset, .unset] [(.int (4 : Int32)), (.int v8_14)] := Own.iconst r at_205 rfl
          by_cases br78 : v8_14 = (4 : Int32)
          · skip
            replace r : A0 l Z n0 D h11 1 2 209 #[.val (.int a_), .val (.int b_), .val (.int c_), .val (.int d_), .val (.int sel), .val (.int y4), .val (.int y8), .val (.ref b9), .val (.int v8_14), .unset, .unset, .unset, .unset] [] := Own.icmpNo r at_206 (teq br78).2
            replace r : A0 l Z n0 D h11 1 2 211 #[.val (.int a_), .val (.int b_), .val (.int c_), .val (.int d_), .val (.int sel), .val (.int y4), .val (.int y8), .val (.ref b9), .val (.int v8_14), .unset, .unset, .unset, .unset] [(.ref b9)] := Own.aload r at_209 rfl rfl
            replace r : A0 l Z n0 D h11 1 2 213 #[.val (.int a_), .val (.int b_), .val (.int c_), .val (.int d_), .val (.int sel), .val (.int y4), .val (.int y8), .val (.ref b9), .val (.int v8_14), .val (.ref b9), .unset, .unset, .unset] [] := Own.astore r at_211 rfl rfl
            replace r : A0 l Z n0 D h11 1 2 214 #[.val (.int a_), .val (.int b_), .val (.int c_), .val (.int d_), .val (.int sel), .val (.int y4), .val (.int y8), .val (.ref b9), .val (.int v8_14), .val (.ref b9), .unset, .unset, .unset] [(.int (1 : Int32))] := Own.iconst r at_213 rfl
            replace r : A0 l Z n0 D h11 1 2 216 #[.val (.int a_), .val (.int b_), .val (.int c_), .val (.int d_), .val (.int sel), .val (.int y4), .val (.int y8), .val (.ref b9), .val (.int v8_14), .val (.ref b9), .val (.int (1 : Int32)), .unset, .unset] [] := Own.istore r at_214 rfl
            replace r : A0 l Z n0 D h11 1 2 281 #[.val (.int a_), .val (.int b_), .val (.int c_), .val (.int d_), .val (.int sel), .val (.int y4), .val (.int y8), .val (.ref b9), .val (.int v8_14), .val (.ref b9), .val (.int (1 : Int32)), .unset, .unset] [] := Own.goto r at_216 (by decide) (by decide)
            replace r : A0 l Z n0 D h11 1 2 283 #[.val (.int a_), .val (.int b_), .val (.int c_), .val (.int d_), .val (.int sel), .val (.int y4), .val (.int y8), .val (.ref b9), .val (.int v8_14), .val (.ref b9), .val (.int (1 : Int32)), .unset, .unset] [(.ref b9)] := Own.aload r at_281 rfl rfl
            replace r : A0 l Z n0 D h11 1 2 285 #[.val (.int a_), .val (.int b_), .val (.int c_), .val (.int d_), .val (.int sel), .val (.int y4), .val (.int y8), .val (.ref b9), .val (.int v8_14), .val (.ref b9), .val (.int (1 : Int32)), .unset, .unset] [(.ref b9), (.ref b9)] := Own.aload r at_283 rfl rfl
            obtain ⟨rv79, h80, hQ81, r⟩ := Own.callV [(.ref b9)] r at_285 (c5 l Z a0 hw n0 h11 Zs b9 b9 y4 y8 y4 y8 F_min_b9 F_max_b9 F_min_b9 F_max_b9 X_b9) X_b9 (hw _ (List.mem_of_getElem? (i := 20) rfl)) (hw _ (List.mem_of_getElem? (i := 21) rfl)) (Own.nfS (hw _ (List.mem_of_getElem? (i := 23) rfl))) (hw _ (List.mem_of_getElem? (i := 23) rfl)) (hw _ (List.mem_of_getElem? (i := 22) rfl)) (hw _ (List.mem_of_getElem? (i := 9) rfl)) (hw _ (List.mem_of_getElem? (i := 24) rfl)) (lenOf pd_0_2 rfl) rfl rfl (W := 0) (Nat.le_of_eq rfl) rfl (by decide) (by decide) (by decide) (by decide) (by decide)
            obtain ⟨rfl, y82, rfl, e_y82⟩ := hQ81
            replace r : A0 l Z n0 D h11 1 2 288 #[.val (.int a_), .val (.int b_), .val (.int c_), .val (.int d_), .val (.int sel), .val (.int y4), .val (.int y8), .val (.ref b9), .val (.int v8_14), .val (.ref b9), .val (.int (1 : Int32)), .unset, .unset] [(.int y82)] := r
            replace r : A0 l Z n0 D h11 1 2 290 #[.val (.int a_), .val (.int b_), .val (.int c_), .val (.int d_), .val (.int sel), .val (.int y4), .val (.int y8), .val (.ref b9), .val (.int v8_14), .val (.ref b9), .val (.int (1 : Int32)), .unset, .unset] [(.int (1 : Int32)), (.int y82)] := Own.iload r at_288 rfl
            replace r : A0 l Z n0 D h11 1 2 293 #[.val (.int a_), .val (.int b_), .val (.int c_), .val (.int d_), .val (.int sel), .val (.int y4), .val (.int y8), .val (.ref b9), .val (.int v8_14), .val (.ref b9), .val (.int (1 : Int32)), .unset, .unset] [] := Own.icmpNo r at_290 (teq (own_s e_y82)).2
            replace r : A0 l Z n0 D h11 1 2 294 #[.val (.int a_), .val (.int b_), .val (.int c_), .val (.int d_), .val (.int sel), .val (.int y4), .val (.int y8), .val (.ref b9), .val (.int v8_14), .val (.ref b9), .val (.int (1 : Int32)), .unset, .unset] [(.int (1 : Int32))] := Own.iconst r at_293 rfl
            replace r : A0 l Z n0 D h11 1 2 298 #[.val (.int a_), .val (.int b_), .val (.int c_), .val (.int d_), .val (.int sel), .val (.int y4), .val (.int y8), .val (.ref b9), .val (.int v8_14), .val (.ref b9), .val (.int (1 : Int32)), .unset, .unset] [(.int (1 : Int32))] := Own.goto r at_294 (by decide) (by decide)
            exact ⟨_, _, (Own.Rch.retZ (y := x) (bytes := code) (mx := maxLocals) r at_298 (by decide)).more (by decide) (by decide), rfl⟩
          · skip
            replace r : A0 l Z n0 D h11 1 2 219 #[.val (.int a_), .val (.int b_), .val (.int c_), .val (.int d_), .val (.int sel), .val (.int y4), .val (.int y8), .val (.ref b9), .val (.int v8_14), .unset, .unset, .unset, .unset] [] := Own.icmpYes r at_206 (feq br78).2 (by decide) (by decide)
            replace r : A0 l Z n0 D h11 1 2 221 #[.val (.int a_), .val (.int b_), .val (.int c_), .val (.int d_), .val (.int sel), .val (.int y4), .val (.int y8), .val (.ref b9), .val (.int v8_14), .unset, .unset, .unset, .unset] [(.int v8_14)] := Own.iload r at_219 rfl
            replace r : A0 l Z n0 D h11 1 2 222 #[.val (.int a_), .val (.int b_), .val (.int c_), .val (.int d_), .val (.int sel), .val (.int y4), .val (.int y8), .val (.ref b9), .val (.int v8_14), .unset, .unset, .unset, .unset] [(.int (5 : Int32)), (.int v8_14)] := Own.iconst r at_221 rfl
            by_cases br83 : v8_14 = (5 : Int32)
            · skip
              replace r : A0 l Z n0 D h11 1 2 225 #[.val (.int a_), .val (.int b_), .val (.int c_), .val (.int d_), .val (.int sel), .val (.int y4), .val (.int y8), .val (.ref b9), .val (.int v8_14), .unset, .unset, .unset, .unset] [] := Own.icmpNo r at_222 (teq br83).2
              replace r : A0 l Z n0 D h11 1 2 226 #[.val (.int a_), .val (.int b_), .val (.int c_), .val (.int d_), .val (.int sel), .val (.int y4), .val (.int y8), .val (.ref b9), .val (.int v8_14), .unset, .unset, .unset, .unset] [.null] := Own.aconstNull r at_225
              replace r : A0 l Z n0 D h11 1 2 228 #[.val (.int a_), .val (.int b_), .val (.int c_), .val (.int d_), .val (.int sel), .val (.int y4), .val (.int y8), .val (.ref b9), .val (.int v8_14), .val .null, .unset, .unset, .unset] [] := Own.astore r at_226 rfl rfl
              replace r : A0 l Z n0 D h11 1 2 229 #[.val (.int a_), .val (.int b_), .val (.int c_), .val (.int d_), .val (.int sel), .val (.int y4), .val (.int y8), .val (.ref b9), .val (.int v8_14), .val .null, .unset, .unset, .unset] [(.int (0 : Int32))] := Own.iconst r at_228 rfl
              replace r : A0 l Z n0 D h11 1 2 231 #[.val (.int a_), .val (.int b_), .val (.int c_), .val (.int d_), .val (.int sel), .val (.int y4), .val (.int y8), .val (.ref b9), .val (.int v8_14), .val .null, .val (.int (0 : Int32)), .unset, .unset] [] := Own.istore r at_229 rfl
              replace r : A0 l Z n0 D h11 1 2 281 #[.val (.int a_), .val (.int b_), .val (.int c_), .val (.int d_), .val (.int sel), .val (.int y4), .val (.int y8), .val (.ref b9), .val (.int v8_14), .val .null, .val (.int (0 : Int32)), .unset, .unset] [] := Own.goto r at_231 (by decide) (by decide)
              replace r : A0 l Z n0 D h11 1 2 283 #[.val (.int a_), .val (.int b_), .val (.int c_), .val (.int d_), .val (.int sel), .val (.int y4), .val (.int y8), .val (.ref b9), .val (.int v8_14), .val .null, .val (.int (0 : Int32)), .unset, .unset] [(.ref b9)] := Own.aload r at_281 rfl rfl
              replace r : A0 l Z n0 D h11 1 2 285 #[.val (.int a_), .val (.int b_), .val (.int c_), .val (.int d_), .val (.int sel), .val (.int y4), .val (.int y8), .val (.ref b9), .val (.int v8_14), .val .null, .val (.int (0 : Int32)), .unset, .unset] [.null, (.ref b9)] := Own.aload r at_283 rfl rfl
              obtain ⟨rv84, h85, hQ86, r⟩ := Own.callV [.null] r at_285 (c5n l Z a0 hw n0 h11 Zs b9) X_b9 (hw _ (List.mem_of_getElem? (i := 20) rfl)) (hw _ (List.mem_of_getElem? (i := 21) rfl)) (Own.nfS (hw _ (List.mem_of_getElem? (i := 23) rfl))) (hw _ (List.mem_of_getElem? (i := 23) rfl)) (hw _ (List.mem_of_getElem? (i := 22) rfl)) (hw _ (List.mem_of_getElem? (i := 9) rfl)) (hw _ (List.mem_of_getElem? (i := 24) rfl)) (lenOf pd_0_2 rfl) rfl rfl (W := 0) (Nat.le_of_eq rfl) rfl (by decide) (by decide) (by decide) (by decide) (by decide)
              obtain ⟨rfl, y87, rfl, e_y87⟩ := hQ86
              replace r : A0 l Z n0 D h11 1 2 288 #[.val (.int a_), .val (.int b_), .val (.int c_), .val (.int d_), .val (.int sel), .val (.int y4), .val (.int y8), .val (.ref b9), .val (.int v8_14), .val .null, .val (.int (0 : Int32)), .unset, .unset] [(.int y87)] := r
              replace r : A0 l Z n0 D h11 1 2 290 #[.val (.int a_), .val (.int b_), .val (.int c_), .val (.int d_), .val (.int sel), .val (.int y4), .val (.int y8), .val (.ref b9), .val (.int v8_14), .val .null, .val (.int (0 : Int32)), .unset, .unset] [(.int (0 : Int32)), (.int y87)] := Own.iload r at_288 rfl
              replace r : A0 l Z n0 D h11 1 2 293 #[.val (.int a_), .val (.int b_), .val (.int c_), .val (.int d_), .val (.int sel), .val (.int y4), .val (.int y8), .val (.ref b9), .val (.int v8_14), .val .null, .val (.int (0 : Int32)), .unset, .unset] [] := Own.icmpNo r at_290 (teq (own_n e_y87)).2
              replace r : A0 l Z n0 D h11 1 2 294 #[.val (.int a_), .val (.int b_), .val (.int c_), .val (.int d_), .val (.int sel), .val (.int y4), .val (.int y8), .val (.ref b9), .val (.int v8_14), .val .null, .val (.int (0 : Int32)), .unset, .unset] [(.int (1 : Int32))] := Own.iconst r at_293 rfl
              replace r : A0 l Z n0 D h11 1 2 298 #[.val (.int a_), .val (.int b_), .val (.int c_), .val (.int d_), .val (.int sel), .val (.int y4), .val (.int y8), .val (.ref b9), .val (.int v8_14), .val .null, .val (.int (0 : Int32)), .unset, .unset] [(.int (1 : Int32))] := Own.goto r at_294 (by decide) (by decide)
              exact ⟨_, _, (Own.Rch.retZ (y := x) (bytes := code) (mx := maxLocals) r at_298 (by decide)).more (by decide) (by decide), rfl⟩
            · skip
              replace r : A0 l Z n0 D h11 1 2 234 #[.val (.int a_), .val (.int b_), .val (.int c_), .val (.int d_), .val (.int sel), .val (.int y4), .val (.int y8), .val (.ref b9), .val (.int v8_14), .unset, .unset, .unset, .unset] [] := Own.icmpYes r at_222 (feq br83).2 (by decide) (by decide)
              replace r : A0 l Z n0 D h11 1 2 236 #[.val (.int a_), .val (.int b_), .val (.int c_), .val (.int d_), .val (.int sel), .val (.int y4), .val (.int y8), .val (.ref b9), .val (.int v8_14), .unset, .unset, .unset, .unset] [(.int v8_14)] := Own.iload r at_234 rfl
              replace r : A0 l Z n0 D h11 1 2 238 #[.val (.int a_), .val (.int b_), .val (.int c_), .val (.int d_), .val (.int sel), .val (.int y4), .val (.int y8), .val (.ref b9), .val (.int v8_14), .unset, .unset, .unset, .unset] [(.int (6 : Int32)), (.int v8_14)] := Own.bipush r at_236 rfl
              by_cases br88 : v8_14 = (6 : Int32)
              · skip
                replace r : A0 l Z n0 D h11 1 2 241 #[.val (.int a_), .val (.int b_), .val (.int c_), .val (.int d_), .val (.int sel), .val (.int y4), .val (.int y8), .val (.ref b9), .val (.int v8_14), .unset, .unset, .unset, .unset] [] := Own.icmpNo r at_238 (teq br88).2
                replace r : A0 l Z n0 D h11 1 2 243 #[.val (.int a_), .val (.int b_), .val (.int c_), .val (.int d_), .val (.int sel), .val (.int y4), .val (.int y8), .val (.ref b9), .val (.int v8_14), .unset, .unset, .unset, .unset] [(.int y4)] := Own.iload r at_241 rfl
                obtain ⟨rv89, h90, hQ91, r⟩ := Own.callS [(.int y4)] r at_243 (c6 l Z a0 hw n0 h11 Zs y4 O hI) (hw _ (List.mem_of_getElem? (i := 27) rfl)) (hw _ (List.mem_of_getElem? (i := 28) rfl)) (hw _ (List.mem_of_getElem? (i := 29) rfl)) (hw _ (List.mem_of_getElem? (i := 30) rfl)) (lenOf pd_0_3 rfl) rfl rfl (W := 0) (Nat.le_of_eq rfl) rfl (by decide) (by decide) (by decide) (by decide) (by decide)
                obtain ⟨b92, rfl, K93, X_b92⟩ := hQ91
                replace O := O.keep K93 all0
                replace X_b9 := X_b9.keep K93
                replace F_min_b9 := F_min_b9.keep K93 (by simp)
                replace F_max_b9 := F_max_b9.keep K93 (by simp)
                replace Zs := Nat.le_trans Zs K93.1
                replace r : A0 l Z n0 D h90 2 3 246 #[.val (.int a_), .val (.int b_), .val (.int c_), .val (.int d_), .val (.int sel), .val (.int y4), .val (.int y8), .val (.ref b9), .val (.int v8_14), .unset, .unset, .unset, .unset] [(.ref b92)] := r
                replace r : A0 l Z n0 D h90 2 3 248 #[.val (.int a_), .val (.int b_), .val (.int c_), .val (.int d_), .val (.int sel), .val (.int y4), .val (.int y8), .val (.ref b9), .val (.int v8_14), .val (.ref b92), .unset, .unset, .unset] [] := Own.astore r at_246 rfl rfl
                replace r : A0 l Z n0 D h90 2 3 249 #[.val (.int a_), .val (.int b_), .val (.int c_), .val (.int d_), .val (.int sel), .val (.int y4), .val (.int y8), .val (.ref b9), .val (.int v8_14), .val (.ref b92), .unset, .unset, .unset] [(.int (0 : Int32))] := Own.iconst r at_248 rfl
                replace r : A0 l Z n0 D h90 2 3 251 #[.val (.int a_), .val (.int b_), .val (.int c_), .val (.int d_), .val (.int sel), .val (.int y4), .val (.int y8), .val (.ref b9), .val (.int v8_14), .val (.ref b92), .val (.int (0 : Int32)), .unset, .unset] [] := Own.istore r at_249 rfl
                replace r : A0 l Z n0 D h90 2 3 281 #[.val (.int a_), .val (.int b_), .val (.int c_), .val (.int d_), .val (.int sel), .val (.int y4), .val (.int y8), .val (.ref b9), .val (.int v8_14), .val (.ref b92), .val (.int (0 : Int32)), .unset, .unset] [] := Own.goto r at_251 (by decide) (by decide)
                replace r : A0 l Z n0 D h90 2 3 283 #[.val (.int a_), .val (.int b_), .val (.int c_), .val (.int d_), .val (.int sel), .val (.int y4), .val (.int y8), .val (.ref b9), .val (.int v8_14), .val (.ref b92), .val (.int (0 : Int32)), .unset, .unset] [(.ref b9)] := Own.aload r at_281 rfl rfl
                replace r : A0 l Z n0 D h90 2 3 285 #[.val (.int a_), .val (.int b_), .val (.int c_), .val (.int d_), .val (.int sel), .val (.int y4), .val (.int y8), .val (.ref b9), .val (.int v8_14), .val (.ref b92), .val (.int (0 : Int32)), .unset, .unset] [(.ref b92), (.ref b9)] := Own.aload r at_283 rfl rfl
                obtain ⟨rv94, h95, hQ96, r⟩ := Own.callV [(.ref b92)] r at_285 (c5i l Z a0 hw n0 h90 Zs b9 b92 X_b92) X_b9 (hw _ (List.mem_of_getElem? (i := 20) rfl)) (hw _ (List.mem_of_getElem? (i := 21) rfl)) (Own.nfS (hw _ (List.mem_of_getElem? (i := 23) rfl))) (hw _ (List.mem_of_getElem? (i := 23) rfl)) (hw _ (List.mem_of_getElem? (i := 22) rfl)) (hw _ (List.mem_of_getElem? (i := 9) rfl)) (hw _ (List.mem_of_getElem? (i := 24) rfl)) (lenOf pd_0_2 rfl) rfl rfl (W := 0) (Nat.le_of_eq rfl) rfl (by decide) (by decide) (by decide) (by decide) (by decide)
                obtain ⟨rfl, y97, rfl, e_y97⟩ := hQ96
                replace r : A0 l Z n0 D h90 2 3 288 #[.val (.int a_), .val (.int b_), .val (.int c_), .val (.int d_), .val (.int sel), .val (.int y4), .val (.int y8), .val (.ref b9), .val (.int v8_14), .val (.ref b92), .val (.int (0 : Int32)), .unset, .unset] [(.int y97)] := r
                replace r : A0 l Z n0 D h90 2 3 290 #[.val (.int a_), .val (.int b_), .val (.int c_), .val (.int d_), .val (.int sel), .val (.int y4), .val (.int y8), .val (.ref b9), .val (.int v8_14), .val (.ref b92), .val (.int (0 : Int32)), .unset, .unset] [(.int (0 : Int32)), (.int y97)] := Own.iload r at_288 rfl
                replace r : A0 l Z n0 D h90 2 3 293 #[.val (.int a_), .val (.int b_), .val (.int c_), .val (.int d_), .val (.int sel), .val (.int y4), .val (.int y8), .val (.ref b9), .val (.int v8_14), .val (.ref b92), .val (.int (0 : Int32)), .unset, .unset] [] := Own.icmpNo r at_290 (teq (own_i e_y97)).2
                replace r : A0 l Z n0 D h90 2 3 294 #[.val (.int a_), .val (.int b_), .val (.int c_), .val (.int d_), .val (.int sel), .val (.int y4), .val (.int y8), .val (.ref b9), .val (.int v8_14), .val (.ref b92), .val (.int (0 : Int32)), .unset, .unset] [(.int (1 : Int32))] := Own.iconst r at_293 rfl
                replace r : A0 l Z n0 D h90 2 3 298 #[.val (.int a_), .val (.int b_), .val (.int c_), .val (.int d_), .val (.int sel), .val (.int y4), .val (.int y8), .val (.ref b9), .val (.int v8_14), .val (.ref b92), .val (.int (0 : Int32)), .unset, .unset] [(.int (1 : Int32))] := Own.goto r at_294 (by decide) (by decide)
                exact ⟨_, _, (Own.Rch.retZ (y := x) (bytes := code) (mx := maxLocals) r at_298 (by decide)).more (by decide) (by decide), rfl⟩
              · skip
                replace r : A0 l Z n0 D h11 1 2 254 #[.val (.int a_), .val (.int b_), .val (.int c_), .val (.int d_), .val (.int sel), .val (.int y4), .val (.int y8), .val (.ref b9), .val (.int v8_14), .unset, .unset, .unset, .unset] [] := Own.icmpYes r at_238 (feq br88).2 (by decide) (by decide)
                obtain ⟨h98, ⟨E98, X_b98, D98⟩, r⟩ := Own.newObj r at_254 (hw _ (List.mem_of_getElem? (i := 7) rfl)) (hw _ (List.mem_of_getElem? (i := 8) rfl)) (hw _ (List.mem_of_getElem? (i := 9) rfl)) (by decide) (by decide)
                obtain ⟨b98, g98⟩ : ∃ z, z = h11.size := ⟨_, rfl⟩
                rw [← g98] at X_b98 D98 r
                have ge_b98 : n0 ≤ b98 := Nat.le_trans Zs (Nat.le_of_eq g98.symm)
                have ne_b9_b98 : b9 ≠ b98 := Own.ne_lt X_b9.lt g98
                replace O := O.ext E98
                replace X_b9 := X_b9.ext E98
                replace F_min_b9 := F_min_b9.ext E98
                replace F_max_b9 := F_max_b9.ext E98
                replace Zs := Nat.le_trans Zs E98.1
                replace r : A0 l Z n0 D h98 2 4 257 #[.val (.int a_), .val (.int b_), .val (.int c_), .val (.int d_), .val (.int sel), .val (.int y4), .val (.int y8), .val (.ref b9), .val (.int v8_14), .unset, .unset, .unset, .unset] [(.ref b98)] := r
                have F_min_b98 : Fld Z h98 b98 "com/example/ref_access_rules/refaccessrules/rule/VoteRange" "min" "I" (.int (0 : Int32)) := D98 (Or.inr (hw _ (List.mem_of_getElem? (i := 17) rfl))) (ty := .int) (by decide)
                have F_max_b98 : Fld Z h98 b98 "com/example/ref_access_rules/refaccessrules/rule/VoteRange" "max" "I" (.int (0 : Int32)) := D98 (Or.inr (hw _ (List.mem_of_getElem? (i := 19) rfl))) (ty := .int) (by decide)
                replace r : A0 l Z n0 D h98 2 4 258 #[.val (.int a_), .val (.int b_), .val (.int c_), .val (.int d_), .val (.int sel), .val (.int y4), .val (.int y8), .val (.ref b9), .val (.int v8_14), .unset, .unset, .unset, .unset] [(.ref b98), (.ref b98)] := Own.dup r at_257 rfl
                replace r : A0 l Z n0 D h98 2 4 260 #[.val (.int a_), .val (.int b_), .val (.int c_), .val (.int d_), .val (.int sel), .val (.int y4), .val (.int y8), .val (.ref b9), .val (.int v8_14), .unset, .unset, .unset, .unset] [(.int y4), (.ref b98), (.ref b98)] := Own.iload r at_258 rfl
                replace r : A0 l Z n0 D h98 2 4 262 #[.val (.int a_), .val (.int b_), .val (.int c_), .val (.int d_), .val (.int sel), .val (.int y4), .val (.int y8), .val (.ref b9), .val (.int v8_14), .unset, .unset, .unset, .unset] [(.int y4), (.int y4), (.ref b98), (.ref b98)] := Own.iload r at_260 rfl
                obtain ⟨rv99, h100, hQ101, r⟩ := Own.callI [(.int y4), (.int y4)] r at_262 (c3 l Z a0 hw n0 h98 Zs b98 y4 y4 _ _ F_min_b98 F_max_b98 X_b98 ge_b98 (own_irr _)) (hw _ (List.mem_of_getElem? (i := 10) rfl)) (hw _ (List.mem_of_getElem? (i := 11) rfl)) (hw _ (List.mem_of_getElem? (i := 9) rfl)) (hw _ (List.mem_of_getElem? (i := 12) rfl)) rfl (lenOf pd_0_1 rfl) rfl rfl (W := 1) (Nat.le_of_eq rfl) rfl (by decide) (by decide) (by decide) (by decide) (by decide)
                obtain ⟨rfl, K102, X_b98, F_min_b98, F_max_b98⟩ := hQ101
                replace O := O.keep K102 (allS ge_b98 all0)
                replace X_b9 := X_b9.keep K102
                replace F_min_b9 := F_min_b9.keep K102 (by simp [ne_b9_b98])
                replace F_max_b9 := F_max_b9.keep K102 (by simp [ne_b9_b98])
                replace Zs := Nat.le_trans Zs K102.1
                replace r : A0 l Z n0 D h100 2 4 265 #[.val (.int a_), .val (.int b_), .val (.int c_), .val (.int d_), .val (.int sel), .val (.int y4), .val (.int y8), .val (.ref b9), .val (.int v8_14), .unset, .unset, .unset, .unset] [(.ref b98)] := r
                replace r : A0 l Z n0 D h100 2 4 267 #[.val (.int a_), .val (.int b_), .val (.int c_), .val (.int d_), .val (.int sel), .val (.int y4), .val (.int y8), .val (.ref b9), .val (.int v8_14), .val (.ref b98), .unset, .unset, .unset] [] := Own.astore r at_265 rfl rfl
                replace r : A0 l Z n0 D h100 2 4 269 #[.val (.int a_), .val (.int b_), .val (.int c_), .val (.int d_), .val (.int sel), .val (.int y4), .val (.int y8), .val (.ref b9), .val (.int v8_14), .val (.ref b98), .unset, .unset, .unset] [(.int y4)] := Own.iload r at_267 rfl
                replace r : A0 l Z n0 D h100 2 4 271 #[.val (.int a_), .val (.int b_), .val (.int c_), .val (.int d_), .val (.int sel), .val (.int y4), .val (.int y8), .val (.ref b9), .val (.int v8_14), .val (.ref b98), .unset, .unset, .unset] [(.int y8), (.int y4)] := Own.iload r at_269 rfl
                obtain ⟨m103, e_m103, r⟩ : ∃ (m103 : Int32), m103 = (if y4 = y8 then (1 : Int32) else (0 : Int32)) ∧ A0 l Z n0 D h100 2 4 279 #[.val (.int a_), .val (.int b_), .val (.int c_), .val (.int d_), .val (.int sel), .val (.int y4), .val (.int y8), .val (.ref b9), .val (.int v8_14), .val (.ref b98), .unset, .unset, .unset] [(.int m103)] := by
                  by_cases br104 : y4 = y8
                  · skip
                    replace r : A0 l Z n0 D h100 2 4 274 #[.val (.int a_), .val (.int b_), .val (.int c_), .val (.int d_), .val (.int sel), .val (.int y4), .val (.int y8), .val (.ref b9), .val (.int v8_14), .val (.ref b98), .unset, .unset, .unset] [] := Own.icmpNo r at_271 (teq br104).2
                    replace r : A0 l Z n0 D h100 2 4 275 #[.val (.int a_), .val (.int b_), .val (.int c_), .val (.int d_), .val (.int sel), .val (.int y4), .val (.int y8), .val (.ref b9), .val (.int v8_14), .val (.ref b98), .unset, .unset, .unset] [(.int (1 : Int32))] := Own.iconst r at_274 rfl
                    replace r : A0 l Z n0 D h100 2 4 279 #[.val (.int a_), .val (.int b_), .val (.int c_), .val (.int d_), .val (.int sel), .val (.int y4), .val (.int y8), .val (.ref b9), .val (.int v8_14), .val (.ref b98), .unset, .unset, .unset] [(.int (1 : Int32))] := Own.goto r at_275 (by decide) (by decide)
                    exact ⟨_, by rw [if_pos br104], r⟩
                  · skip
                    replace r : A0 l Z n0 D h100 2 4 278 #[.val (.int a_), .val (.int b_), .val (.int c_), .val (.int d_), .val (.int sel), .val (.int y4), .val (.int y8), .val (.ref b9), .val (.int v8_14), .val (.ref b98), .unset, .unset, .unset] [] := Own.icmpYes r at_271 (feq br104).2 (by decide) (by decide)
                    replace r : A0 l Z n0 D h100 2 4 279 #[.val (.int a_), .val (.int b_), .val (.int c_), .val (.int d_), .val (.int sel), .val (.int y4), .val (.int y8), .val (.ref b9), .val (.int v8_14), .val (.ref b98), .unset, .unset, .unset] [(.int (0 : Int32))] := Own.iconst r at_278 rfl
                    exact ⟨_, by rw [if_neg br104], r⟩
                replace r : A0 l Z n0 D h100 2 4 281 #[.val (.int a_), .val (.int b_), .val (.int c_), .val (.int d_), .val (.int sel), .val (.int y4), .val (.int y8), .val (.ref b9), .val (.int v8_14), .val (.ref b98), .val (.int m103), .unset, .unset] [] := Own.istore r at_279 rfl
                replace r : A0 l Z n0 D h100 2 4 283 #[.val (.int a_), .val (.int b_), .val (.int c_), .val (.int d_), .val (.int sel), .val (.int y4), .val (.int y8), .val (.ref b9), .val (.int v8_14), .val (.ref b98), .val (.int m103), .unset, .unset] [(.ref b9)] := Own.aload r at_281 rfl rfl
                replace r : A0 l Z n0 D h100 2 4 285 #[.val (.int a_), .val (.int b_), .val (.int c_), .val (.int d_), .val (.int sel), .val (.int y4), .val (.int y8), .val (.ref b9), .val (.int v8_14), .val (.ref b98), .val (.int m103), .unset, .unset] [(.ref b98), (.ref b9)] := Own.aload r at_283 rfl rfl
                obtain ⟨rv105, h106, hQ107, r⟩ := Own.callV [(.ref b98)] r at_285 (c5 l Z a0 hw n0 h100 Zs b9 b98 y4 y8 y4 y4 F_min_b9 F_max_b9 F_min_b98 F_max_b98 X_b98) X_b9 (hw _ (List.mem_of_getElem? (i := 20) rfl)) (hw _ (List.mem_of_getElem? (i := 21) rfl)) (Own.nfS (hw _ (List.mem_of_getElem? (i := 23) rfl))) (hw _ (List.mem_of_getElem? (i := 23) rfl)) (hw _ (List.mem_of_getElem? (i := 22) rfl)) (hw _ (List.mem_of_getElem? (i := 9) rfl)) (hw _ (List.mem_of_getElem? (i := 24) rfl)) (lenOf pd_0_2 rfl) rfl rfl (W := 0) (Nat.le_of_eq rfl) rfl (by decide) (by decide) (by decide) (by decide) (by decide)
                obtain ⟨rfl, y108, rfl, e_y108⟩ := hQ107
                replace r : A0 l Z n0 D h100 2 4 288 #[.val (.int a_), .val (.int b_), .val (.int c_), .val (.int d_), .val (.int sel), .val (.int y4), .val (.int y8), .val (.ref b9), .val (.int v8_14), .val (.ref b98), .val (.int m103), .unset, .unset] [(.int y108)] := r
                replace r : A0 l Z n0 D h100 2 4 290 #[.val (.int a_), .val (.int b_), .val (.int c_), .val (.int d_), .val (.int sel), .val (.int y4), .val (.int y8), .val (.ref b9), .val (.int v8_14), .val (.ref b98), .val (.int m103), .unset, .unset] [(.int m103), (.int y108)] := Own.iload r at_288 rfl
                replace r : A0 l Z n0 D h100 2 4 293 #[.val (.int a_), .val (.int b_), .val (.int c_), .val (.int d_), .val (.int sel), .val (.int y4), .val (.int y8), .val (.ref b9), .val (.int v8_14), .val (.ref b98), .val (.int m103), .unset, .unset] [] := Own.icmpNo r at_290 (teq (own_7 e_y108 e_m103)).2
                replace r : A0 l Z n0 D h100 2 4 294 #[.val (.int a_), .val (.int b_), .val (.int c_), .val (.int d_), .val (.int sel), .val (.int y4), .val (.int y8), .val (.ref b9), .val (.int v8_14), .val (.ref b98), .val (.int m103), .unset, .unset] [(.int (1 : Int32))] := Own.iconst r at_293 rfl
                replace r : A0 l Z n0 D h100 2 4 298 #[.val (.int a_), .val (.int b_), .val (.int c_), .val (.int d_), .val (.int sel), .val (.int y4), .val (.int y8), .val (.ref b9), .val (.int v8_14), .val (.ref b98), .val (.int m103), .unset, .unset] [(.int (1 : Int32))] := Own.goto r at_294 (by decide) (by decide)
                exact ⟨_, _, (Own.Rch.retZ (y := x) (bytes := code) (mx := maxLocals) r at_298 (by decide)).more (by decide) (by decide), rfl⟩
set_option maxRecDepth 65536 in
set_option maxHeartbeats 40000000 in
theorem comes_1 {Post : Tables → Env → Array Value → State → Outcome → State → Prop} (hpost : ∀ tb e args s v u, (limb_1_1.after args s (.returned v) u = true ∧ limb_1_2.after args s (.returned v) u = true ∧ True) → FrameEnd s (.returned v) u (Jvm.fieldLocs frame_1_writes args s ++ Jvm.arrayLocs frame_1_arrays args s ++ Jvm.staticLocs frame_1_statics s) 16 128 → Post tb e args s (.returned v) u) :
    ArmFor flags0 classFile x code maxLocals ret World_1 tables_1 room_1 Calls_1 rest_1 Pre_1 Post := by
  intro l hfl _ _ p e ha hc hk s m args below hf hA hF happ hP
  obtain ⟨hcalls, hrest, hpre⟩ := hP
  obtain ⟨-, -, -, hnamed, -, -, -, hat⟩ := (Spec.applies_iff hf).mp happ
  obtain ⟨hg, hn⟩ := and_e (Cond.before_iff.mp (show (Jvm.Cond.and given_1 narrow_1).before args s = true from hpre))
  obtain ⟨g1, g2⟩ := and_e hg
  obtain ⟨g3, g4⟩ := and_e g2
  obtain ⟨g5, g6⟩ := and_e g4
  obtain ⟨g7, g8⟩ := and_e g6
  obtain ⟨g9, g10⟩ := and_e g8
  obtain ⟨w0, w1, w2, w3, w4, rfl⟩ : ∃ w0 w1 w2 w3 w4 : Value, args = #[w0, w1, w2, w3, w4] := by
    have hs : args.size = 5 := by simpa [Cond.value, given_1] using g1
    obtain ⟨L⟩ := args
    match L, hs with
    | [w0, w1, w2, w3, w4], _ => exact ⟨w0, w1, w2, w3, w4, rfl⟩
  have hw := fun d (hd : d ∈ tables_1) => atoms_spec (ws := Jvm.Cond.code x code maxLocals ret :: tables_1) hat d (List.mem_cons_of_mem _ hd)
  have hfit : Fit s := fun {y c} hc i hi => by
    obtain ⟨ha, rfl⟩ := Array.getElem?_eq_some_iff.mp hc
    have q := List.all_eq_true.mp ((Array.all_eq_true_iff_forall_mem.mp hF) _ (Array.getElem_mem ha)) i (List.mem_range.mpr hi)
    simpa [Array.getElem?_eq_getElem hi] using q
  obtain ⟨hsets, hown0⟩ := atoms_of _ (rest_1_c_eq ▸ (show rest_1_c.before _ s = true from hrest))
  have hr0 := Cond.before_iff.mp hown0
  obtain ⟨i0, ei0⟩ := is_v g3
  obtain rfl : w0 = (.int i0) := Option.some.inj ei0
  obtain ⟨i1, ei1⟩ := is_v g5
  obtain rfl : w1 = (.int i1) := Option.some.inj ei1
  obtain ⟨i2, ei2⟩ := is_v g7
  obtain rfl : w2 = (.int i2) := Option.some.inj ei2
  obtain ⟨i3, ei3⟩ := is_v g9
  obtain rfl : w3 = (.int i3) := Option.some.inj ei3
  obtain ⟨i4, ei4⟩ := is_v g10
  obtain rfl : w4 = (.int i4) := Option.some.inj ei4
  obtain ⟨n, o, h1, h2, h3, _, L, rfl, ⟨N, rfl⟩, hq⟩ := (c0 l s _ hw s.heap.size s.heap (Nat.le_refl _) i0 i1 i2 i3 i4 (Old.start s) (own_cache hsets hw)) tables_1 p e ha hc hk s m _ below hf ((Spec.applies_iff_loose hf).mp happ).1 ⟨rfl, State.Warmed39.refl s, rfl⟩ trivial
  refine ⟨n, _, h1, h2, h3, hpost _ _ _ _ _ _ ⟨Cond.after_iff.mpr rfl, Cond.after_iff.mpr (eq_i res_at (Term.int_eval (1)) rfl), trivial⟩ ⟨hq.1, hq.2.1, (hq.2.2.sift fun y hy => Or.inr (N y hy)).mono (by decide) (by decide)⟩⟩
theorem main_1_1 : Claimed_1_1 := comes_1 fun _ _ _ _ _ _ h hF => ⟨h.1, hF⟩
theorem main_1_2 : Claimed_1_2 := comes_1 fun _ _ _ _ _ _ h hF => ⟨h.2.1, hF⟩
end Jvm.Pilot.@@N@@
namespace Jvm.Pilot.@@N@@
open Jvm Jvm.ClassFile Sem Op Lib Jvm.Free Jvm.Stand Jvm.Pilot.@@N@@.Jvm.D
/-! MADE BY PROGRAM (witnessworld.py) out of the Statement's table words and the real class files: 17 classes; the members and pool entries that the words name. The judged class is class 1, her method 1. -/
namespace start1
open Jvm.ClassFile
def u (s : String) : CpInfo := .utf8 (stringToUtf16 s)
/-- a pool by its gaps: so many unusable entries, then the entry; so many at the end -/
def gap : Nat → List CpInfo → List CpInfo
  | 0, r => r
  | n + 1, r => .unusable :: gap n r
def poolList (es : List (Nat × CpInfo)) (last : Nat) : List CpInfo := es.foldr (fun e r => gap e.1 (e.2 :: r)) (gap last [])
def pool (es : List (Nat × CpInfo)) (last : Nat) : Array CpInfo := ⟨poolList es last⟩
def fileOf (pool : Array CpInfo) (this : Nat) (attrs : Array Attribute := #[]) (ms : Array MethodInfo := #[]) (fl : Nat := 33) (sup : Nat := 0) (ifs : Array Nat := #[]) (fds : Array FieldInfo := #[]) : ClassFile where
  minorVersion := 0
  majorVersion := 65
  constantPool := pool
  accessFlags := fl
  thisClass := this
  superClass := sup
  interfaces := ifs
  fields := fds
  methods := ms
  attributes := attrs
def plain (name : String) (sup : Option ClassId) : Class where
  name := name
  kind := .ordinary
  loader := none
  accessFlags := 33
  super := sup
  interfaces := #[]
  cf := none
  fields := #[]
  methods := #[]
  instanceTypes := #[]
  staticTypes := #[]
  resolved := #[]
  callSites := []
  init := .initialized
  statics := none
  mirror := none

def pool0 : Array CpInfo := pool [(5, u "<init>"), (0, u "()V"), (1, .class_ 10), (1, u "java/lang/Object")] 113

def k0c0 : Code := { maxStack := 0, maxLocals := 1, code := object_method_1_code, exceptionTable := #[], attributes := #[] }
def k0m0 : Method := { name := "<init>", desc := "()V", sig := { parameters := [], returnType := none }, accessFlags := 1, code := some k0c0 }
/-- java/lang/Object -/
def k0 : Class := { plain "java/lang/Object" none with
  accessFlags := 33
  interfaces := #[]
  cf := some (fileOf pool0 8 #[] #[{ accessFlags := 1, nameIndex := 5, descriptorIndex := 6, attributes := #[] }] 33 0 #[] #[])
  fields := #[]
  methods := #[k0m0]
  instanceTypes := #[]
  staticTypes := #[]
  resolved := Array.replicate 124 none
  statics := none }

def pool1 : Array CpInfo := pool [(2, .class_ 4), (1, u "java/lang/Object"), (0, u "<init>"), (0, u "()V"), (0, .methodref 8 9), (0, .class_ 10), (0, .nameAndType 11 12), (0, u "java/lang/Math"), (0, u "min"), (0, u "(II)I"), (0, .methodref 8 14), (0, .nameAndType 15 12), (0, u "max"), (0, .class_ 17), (0, u "com/example/ref_access_rules/refaccessrules/rule/VoteRange"), (0, .methodref 16 19), (0, .nameAndType 5 20), (0, u "(II)V"), (0, .methodref 22 23), (0, .class_ 24), (0, .nameAndType 25 26), (0, u "java/lang/Integer"), (0, u "valueOf"), (0, u "(I)Ljava/lang/Integer;"), (0, .methodref 16 28), (0, .nameAndType 29 30), (0, u "equals"), (0, u "(Ljava/lang/Object;)Z"), (0, .class_ 32), (0, u "com/example/ref_access_rules/refaccessrules/rule/VoteRangeEqualsPinLaw"), (2, u "law"), (0, u "(IIIII)Z")] 3

def k1m0 : Method := { name := "<init>", desc := "()V", sig := { parameters := [], returnType := none }, accessFlags := 1, code := none }
def k1c1 : Code := { maxStack := 4, maxLocals := 13, code := code, exceptionTable := #[], attributes := #[] }
def k1m1 : Method := { name := "law", desc := "(IIIII)Z", sig := { parameters := [.int, .int, .int, .int, .int], returnType := some .boolean }, accessFlags := 9, code := some k1c1 }
/-- com/example/ref_access_rules/refaccessrules/rule/VoteRangeEqualsPinLaw -/
def k1 : Class := { plain "com/example/ref_access_rules/refaccessrules/rule/VoteRangeEqualsPinLaw" (some 0) with
  accessFlags := 49
  interfaces := #[]
  cf := some (fileOf pool1 31 #[] #[{ accessFlags := 1, nameIndex := 5, descriptorIndex := 6, attributes := #[] }, { accessFlags := 9, nameIndex := 35, descriptorIndex := 36, attributes := #[] }] 49 2 #[] #[])
  fields := #[]
  methods := #[k1m0, k1m1]
  instanceTypes := #[]
  staticTypes := #[]
  resolved := Array.replicate 40 none
  statics := none }

def pool2 : Array CpInfo := pool [(1, .class_ 2), (0, u "java/lang/Math"), (1, .class_ 6), (1, u "java/lang/Object"), (0, u "<init>"), (0, u "()V"), (89, .class_ 100), (1, u "java/lang/Math$RandomNumberGeneratorHolder"), (71, u "negativeZeroFloatBits"), (0, u "J"), (2, u "negativeZeroDoubleBits"), (21, u "max"), (2, u "min"), (43, u "$assertionsDisabled"), (0, u "Z"), (88, u "(II)I"), (2, u "twoToTheDoubleScaleDown"), (0, u "D"), (4, u "twoToTheDoubleScaleUp"), (9, u "E"), (3, u "PI"), (2, u "TAU"), (2, u "DEGREES_TO_RADIANS"), (0, u "RADIANS_TO_DEGREES")] 94

def k2m0 : Method := { name := "<init>", desc := "()V", sig := { parameters := [], returnType := none }, accessFlags := 2, code := none }
def k2c1 : Code := { maxStack := 2, maxLocals := 2, code := jdk_29_method_65_code, exceptionTable := #[], attributes := #[] }
def k2m1 : Method := { name := "max", desc := "(II)I", sig := { parameters := [.int, .int], returnType := some .int }, accessFlags := 9, code := some k2c1 }
def k2c2 : Code := { maxStack := 2, maxLocals := 2, code := jdk_29_method_69_code, exceptionTable := #[], attributes := #[] }
def k2m2 : Method := { name := "min", desc := "(II)I", sig := { parameters := [.int, .int], returnType := some .int }, accessFlags := 9, code := some k2c2 }
/-- java/lang/Math -/
def k2 : Class := { plain "java/lang/Math" (some 0) with
  accessFlags := 49
  interfaces := #[]
  cf := some (fileOf pool2 1 #[.nestMembers #[98]] #[{ accessFlags := 2, nameIndex := 7, descriptorIndex := 8, attributes := #[] }, { accessFlags := 9, nameIndex := 198, descriptorIndex := 335, attributes := #[] }, { accessFlags := 9, nameIndex := 201, descriptorIndex := 335, attributes := #[] }] 49 4 #[] #[{ accessFlags := 25, nameIndex := 354, descriptorIndex := 339, attributes := #[] }, { accessFlags := 25, nameIndex := 358, descriptorIndex := 339, attributes := #[] }, { accessFlags := 25, nameIndex := 361, descriptorIndex := 339, attributes := #[] }, { accessFlags := 26, nameIndex := 364, descriptorIndex := 339, attributes := #[] }, { accessFlags := 26, nameIndex := 365, descriptorIndex := 339, attributes := #[] }, { accessFlags := 26, nameIndex := 172, descriptorIndex := 173, attributes := #[] }, { accessFlags := 26, nameIndex := 176, descriptorIndex := 173, attributes := #[] }, { accessFlags := 8, nameIndex := 344, descriptorIndex := 339, attributes := #[] }, { accessFlags := 8, nameIndex := 338, descriptorIndex := 339, attributes := #[] }, { accessFlags := 4120, nameIndex := 245, descriptorIndex := 246, attributes := #[] }])
  fields := #[{ name := "E", type := .double, accessFlags := 25, slot := 0, constantValue := 0 }, { name := "PI", type := .double, accessFlags := 25, slot := 1, constantValue := 0 }, { name := "TAU", type := .double, accessFlags := 25, slot := 2, constantValue := 0 }, { name := "DEGREES_TO_RADIANS", type := .double, accessFlags := 26, slot := 3, constantValue := 0 }, { name := "RADIANS_TO_DEGREES", type := .double, accessFlags := 26, slot := 4, constantValue := 0 }, { name := "negativeZeroFloatBits", type := .long, accessFlags := 26, slot := 5, constantValue := 0 }, { name := "negativeZeroDoubleBits", type := .long, accessFlags := 26, slot := 6, constantValue := 0 }, { name := "twoToTheDoubleScaleUp", type := .double, accessFlags := 8, slot := 7, constantValue := 0 }, { name := "twoToTheDoubleScaleDown", type := .double, accessFlags := 8, slot := 8, constantValue := 0 }, { name := "$assertionsDisabled", type := .boolean, accessFlags := 4120, slot := 9, constantValue := 0 }]
  methods := #[k2m0, k2m1, k2m2]
  instanceTypes := #[]
  staticTypes := #[.double, .double, .double, .double, .double, .long, .long, .double, .double, .boolean]
  resolved := Array.replicate 460 none
  statics := none }

def pool3 : Array CpInfo := pool [(1, .methodref 2 3), (0, .class_ 4), (0, .nameAndType 5 6), (0, u "java/lang/Object"), (0, u "<init>"), (0, u "()V"), (9, .fieldref 17 18), (0, .class_ 19), (0, .nameAndType 20 21), (0, u "com/example/ref_access_rules/refaccessrules/rule/VoteRange"), (0, u "min"), (0, u "I"), (0, .fieldref 17 23), (0, .nameAndType 24 21), (0, u "max"), (9, u "(II)V"), (46, u "equals"), (0, u "(Ljava/lang/Object;)Z")] 25

def k3c0 : Code := { maxStack := 4, maxLocals := 3, code := prog_41_method_1_code, exceptionTable := #[], attributes := #[] }
def k3m0 : Method := { name := "<init>", desc := "(II)V", sig := { parameters := [.int, .int], returnType := none }, accessFlags := 1, code := some k3c0 }
def k3c1 : Code := { maxStack := 2, maxLocals := 3, code := prog_41_method_6_code, exceptionTable := #[], attributes := #[] }
def k3m1 : Method := { name := "equals", desc := "(Ljava/lang/Object;)Z", sig := { parameters := [(.object "java/lang/Object")], returnType := some .boolean }, accessFlags := 1, code := some k3c1 }
/-- com/example/ref_access_rules/refaccessrules/rule/VoteRange -/
def k3 : Class := { plain "com/example/ref_access_rules/refaccessrules/rule/VoteRange" (some 0) with
  accessFlags := 33
  interfaces := #[]
  cf := some (fileOf pool3 17 #[] #[{ accessFlags := 1, nameIndex := 5, descriptorIndex := 34, attributes := #[] }, { accessFlags := 1, nameIndex := 81, descriptorIndex := 82, attributes := #[] }] 33 2 #[] #[{ accessFlags := 18, nameIndex := 20, descriptorIndex := 21, attributes := #[] }, { accessFlags := 18, nameIndex := 24, descriptorIndex := 21, attributes := #[] }])
  fields := #[{ name := "min", type := .int, accessFlags := 18, slot := 0, constantValue := 0 }, { name := "max", type := .int, accessFlags := 18, slot := 1, constantValue := 0 }]
  methods := #[k3m0, k3m1]
  instanceTypes := #[.int, .int]
  staticTypes := #[]
  resolved := Array.replicate 108 none
  statics := none }

def pool4 : Array CpInfo := pool [(1, .class_ 2), (0, u "java/io/Serializable"), (0, .class_ 4), (0, u "java/lang/Object")] 2

/-- java/io/Serializable -/
def k4 : Class := { plain "java/io/Serializable" (some 0) with
  accessFlags := 1537
  interfaces := #[]
  cf := some (fileOf pool4 1 #[] #[] 1537 3 #[] #[])
  fields := #[]
  methods := #[]
  instanceTypes := #[]
  staticTypes := #[]
  resolved := Array.replicate 7 none
  statics := none }

def pool5 : Array CpInfo := pool [(1, .methodref 2 3), (0, .class_ 4), (0, .nameAndType 5 6), (0, u "java/lang/Object"), (0, u "<init>"), (0, u "()V"), (1, .class_ 10), (1, u "java/lang/Number"), (2, .class_ 14), (0, u "java/io/Serializable"), (0, u "serialVersionUID"), (0, u "J")] 20

def k5c0 : Code := { maxStack := 1, maxLocals := 1, code := jdk_18_method_1_code, exceptionTable := #[], attributes := #[] }
def k5m0 : Method := { name := "<init>", desc := "()V", sig := { parameters := [], returnType := none }, accessFlags := 1, code := some k5c0 }
/-- java/lang/Number -/
def k5 : Class := { plain "java/lang/Number" (some 0) with
  accessFlags := 1057
  interfaces := #[4]
  cf := some (fileOf pool5 8 #[] #[{ accessFlags := 1, nameIndex := 5, descriptorIndex := 6, attributes := #[] }] 1057 2 #[13] #[{ accessFlags := 26, nameIndex := 15, descriptorIndex := 16, attributes := #[] }])
  fields := #[{ name := "serialVersionUID", type := .long, accessFlags := 26, slot := 0, constantValue := 0 }]
  methods := #[k5m0]
  instanceTypes := #[]
  staticTypes := #[.long]
  resolved := Array.replicate 37 none
  statics := none }

def pool6 : Array CpInfo := pool [(1, .class_ 2), (0, u "java/lang/Comparable"), (0, .class_ 4), (0, u "java/lang/Object")] 7

/-- java/lang/Comparable -/
def k6 : Class := { plain "java/lang/Comparable" (some 0) with
  accessFlags := 1537
  interfaces := #[]
  cf := some (fileOf pool6 1 #[] #[] 1537 3 #[] #[])
  fields := #[]
  methods := #[]
  instanceTypes := #[]
  staticTypes := #[]
  resolved := Array.replicate 12 none
  statics := none }

def pool7 : Array CpInfo := pool [(1, .class_ 2), (0, u "java/lang/constant/Constable"), (0, .class_ 4), (0, u "java/lang/Object")] 6

/-- java/lang/constant/Constable -/
def k7 : Class := { plain "java/lang/constant/Constable" (some 0) with
  accessFlags := 1537
  interfaces := #[]
  cf := some (fileOf pool7 1 #[] #[] 1537 3 #[] #[])
  fields := #[]
  methods := #[]
  instanceTypes := #[]
  staticTypes := #[]
  resolved := Array.replicate 11 none
  statics := none }

def pool8 : Array CpInfo := pool [(1, .class_ 2), (0, u "java/lang/constant/ConstantDesc"), (0, .class_ 4), (0, u "java/lang/Object")] 32

/-- java/lang/constant/ConstantDesc -/
def k8 : Class := { plain "java/lang/constant/ConstantDesc" (some 0) with
  accessFlags := 1537
  interfaces := #[]
  cf := some (fileOf pool8 1 #[] #[] 1537 3 #[] #[])
  fields := #[]
  methods := #[]
  instanceTypes := #[]
  staticTypes := #[]
  resolved := Array.replicate 37 none
  statics := none }

def pool9 : Array CpInfo := pool [(1, .class_ 2), (0, u "java/lang/Integer"), (16, u "digits"), (0, u "[C"), (46, u "<init>"), (17, u "DigitOnes"), (0, u "[B"), (2, u "DigitTens"), (10, .nameAndType 67 101), (0, u "()V"), (85, u "valueOf"), (0, u "(I)Ljava/lang/Integer;"), (0, .class_ 190), (0, u "java/lang/Integer$IntegerCache"), (0, .fieldref 189 192), (0, .nameAndType 193 194), (0, u "high"), (0, u "I"), (0, .fieldref 189 196), (0, .nameAndType 197 198), (0, u "cache"), (0, u "[Ljava/lang/Integer;"), (0, .methodref 1 200), (0, .nameAndType 67 201), (0, u "(I)V"), (0, .methodref 203 100), (0, .class_ 204), (0, u "java/lang/Number"), (0, .fieldref 1 206), (0, .nameAndType 207 194), (0, u "value"), (94, u "TYPE"), (0, u "Ljava/lang/Class;"), (0, .class_ 305), (0, u "java/lang/Comparable"), (0, .class_ 307), (0, u "java/lang/constant/Constable"), (0, .class_ 309), (0, u "java/lang/constant/ConstantDesc"), (0, u "MIN_VALUE"), (1, u "MAX_VALUE"), (3, u "SIZE"), (1, u "BYTES"), (1, u "serialVersionUID"), (0, u "J")] 131

def k9c0 : Code := { maxStack := 3, maxLocals := 1, code := jdk_33_method_22_code, exceptionTable := #[], attributes := #[] }
def k9m0 : Method := { name := "valueOf", desc := "(I)Ljava/lang/Integer;", sig := { parameters := [.int], returnType := some (.object "java/lang/Integer") }, accessFlags := 9, code := some k9c0 }
def k9c1 : Code := { maxStack := 2, maxLocals := 2, code := jdk_33_method_23_code, exceptionTable := #[], attributes := #[] }
def k9m1 : Method := { name := "<init>", desc := "(I)V", sig := { parameters := [.int], returnType := none }, accessFlags := 1, code := some k9c1 }
/-- java/lang/Integer -/
def k9 : Class := { plain "java/lang/Integer" (some 5) with
  accessFlags := 49
  interfaces := #[6, 7, 8]
  cf := some (fileOf pool9 1 #[.nestMembers #[189]] #[{ accessFlags := 9, nameIndex := 187, descriptorIndex := 188, attributes := #[] }, { accessFlags := 1, nameIndex := 67, descriptorIndex := 201, attributes := #[] }] 49 203 #[304, 306, 308] #[{ accessFlags := 25, nameIndex := 310, descriptorIndex := 194, attributes := #[] }, { accessFlags := 25, nameIndex := 312, descriptorIndex := 194, attributes := #[] }, { accessFlags := 25, nameIndex := 302, descriptorIndex := 303, attributes := #[] }, { accessFlags := 24, nameIndex := 19, descriptorIndex := 20, attributes := #[] }, { accessFlags := 24, nameIndex := 89, descriptorIndex := 86, attributes := #[] }, { accessFlags := 24, nameIndex := 85, descriptorIndex := 86, attributes := #[] }, { accessFlags := 18, nameIndex := 207, descriptorIndex := 194, attributes := #[] }, { accessFlags := 25, nameIndex := 316, descriptorIndex := 194, attributes := #[] }, { accessFlags := 25, nameIndex := 318, descriptorIndex := 194, attributes := #[] }, { accessFlags := 26, nameIndex := 320, descriptorIndex := 321, attributes := #[] }])
  fields := #[{ name := "MIN_VALUE", type := .int, accessFlags := 25, slot := 0, constantValue := 0 }, { name := "MAX_VALUE", type := .int, accessFlags := 25, slot := 1, constantValue := 0 }, { name := "TYPE", type := (.object "java/lang/Class"), accessFlags := 25, slot := 2, constantValue := 0 }, { name := "digits", type := (.array .char), accessFlags := 24, slot := 3, constantValue := 0 }, { name := "DigitTens", type := (.array .byte), accessFlags := 24, slot := 4, constantValue := 0 }, { name := "DigitOnes", type := (.array .byte), accessFlags := 24, slot := 5, constantValue := 0 }, { name := "value", type := .int, accessFlags := 18, slot := 0, constantValue := 0 }, { name := "SIZE", type := .int, accessFlags := 25, slot := 6, constantValue := 0 }, { name := "BYTES", type := .int, accessFlags := 25, slot := 7, constantValue := 0 }, { name := "serialVersionUID", type := .long, accessFlags := 26, slot := 8, constantValue := 0 }]
  methods := #[k9m0, k9m1]
  instanceTypes := #[.int]
  staticTypes := #[.int, .int, (.object "java/lang/Class"), (.array .char), (.array .byte), (.array .byte), .int, .int, .long]
  resolved := Array.replicate 453 none
  statics := none }

def pool10 : Array CpInfo := pool [(2, .class_ 4), (1, u "java/lang/Object"), (0, u "<init>"), (0, u "()V"), (0, .class_ 8), (0, u "java/lang/Integer"), (7, .class_ 18), (1, u "java/lang/Integer$IntegerCache"), (0, u "$assertionsDisabled"), (0, u "Z"), (26, u "high"), (0, u "I"), (8, u "archivedCache"), (0, u "[Ljava/lang/Integer;"), (12, u "cache"), (0, u "low")] 27

def k10m0 : Method := { name := "<init>", desc := "()V", sig := { parameters := [], returnType := none }, accessFlags := 2, code := none }
/-- java/lang/Integer$IntegerCache -/
def k10 : Class := { plain "java/lang/Integer$IntegerCache" (some 0) with
  accessFlags := 48
  interfaces := #[]
  cf := some (fileOf pool10 16 #[.nestHost 7] #[{ accessFlags := 2, nameIndex := 5, descriptorIndex := 6, attributes := #[] }] 48 2 #[] #[{ accessFlags := 24, nameIndex := 72, descriptorIndex := 48, attributes := #[] }, { accessFlags := 24, nameIndex := 47, descriptorIndex := 48, attributes := #[] }, { accessFlags := 24, nameIndex := 71, descriptorIndex := 58, attributes := #[] }, { accessFlags := 8, nameIndex := 57, descriptorIndex := 58, attributes := #[] }, { accessFlags := 4120, nameIndex := 19, descriptorIndex := 20, attributes := #[] }])
  fields := #[{ name := "low", type := .int, accessFlags := 24, slot := 0, constantValue := 0 }, { name := "high", type := .int, accessFlags := 24, slot := 1, constantValue := 0 }, { name := "cache", type := (.array (.object "java/lang/Integer")), accessFlags := 24, slot := 2, constantValue := 0 }, { name := "archivedCache", type := (.array (.object "java/lang/Integer")), accessFlags := 8, slot := 3, constantValue := 0 }, { name := "$assertionsDisabled", type := .boolean, accessFlags := 4120, slot := 4, constantValue := 0 }]
  methods := #[k10m0]
  instanceTypes := #[]
  staticTypes := #[.int, .int, (.array (.object "java/lang/Integer")), (.array (.object "java/lang/Integer")), .boolean]
  resolved := Array.replicate 100 none
  statics := some 0 }

def pool11 : Array CpInfo := pool [(1, u "java/lang/Cloneable"), (0, .class_ 1), (0, u "java/lang/Object"), (0, .class_ 3)] 3

/-- java/lang/Cloneable -/
def k11 : Class := { plain "java/lang/Cloneable" (some 0) with
  accessFlags := 1537
  interfaces := #[]
  cf := some (fileOf pool11 2 #[] #[] 1537 4 #[] #[])
  fields := #[]
  methods := #[]
  instanceTypes := #[]
  staticTypes := #[]
  resolved := Array.replicate 8 none
  statics := none }

/-- the primitive byte -/
def k12 : Class := { plain "byte" none with kind := .primitive 'B', accessFlags := 0x411 }
/-- [B -/
def k13 : Class := { plain "[B" (some 0) with kind := .array 12 .byte, interfaces := #[11, 4], accessFlags := 1041 }

/-- the primitive int -/
def k14 : Class := { plain "int" none with kind := .primitive 'I', accessFlags := 0x411 }
/-- [I -/
def k15 : Class := { plain "[I" (some 0) with kind := .array 14 .int, interfaces := #[11, 4], accessFlags := 1041 }

/-- [Ljava/lang/Integer; -/
def k16 : Class := { plain "[Ljava/lang/Integer;" (some 0) with kind := .array 9 (.object "java/lang/Integer"), interfaces := #[11, 4], accessFlags := 1041 }

def heap : Heap := #[{ cls := 10, slots := #[.int 0, .int 127, .ref 1, .null, .int 0], vm := .statics 10 },
  { cls := 16, slots := #[.ref 2, .ref 3, .ref 4, .ref 5, .ref 6, .ref 7, .ref 8, .ref 9, .ref 10, .ref 11, .ref 12, .ref 13, .ref 14, .ref 15, .ref 16, .ref 17, .ref 18, .ref 19, .ref 20, .ref 21, .ref 22, .ref 23, .ref 24, .ref 25, .ref 26, .ref 27, .ref 28, .ref 29, .ref 30, .ref 31, .ref 32, .ref 33, .ref 34, .ref 35, .ref 36, .ref 37, .ref 38, .ref 39, .ref 40, .ref 41, .ref 42, .ref 43, .ref 44, .ref 45, .ref 46, .ref 47, .ref 48, .ref 49, .ref 50, .ref 51, .ref 52, .ref 53, .ref 54, .ref 55, .ref 56, .ref 57, .ref 58, .ref 59, .ref 60, .ref 61, .ref 62, .ref 63, .ref 64, .ref 65, .ref 66, .ref 67, .ref 68, .ref 69, .ref 70, .ref 71, .ref 72, .ref 73, .ref 74, .ref 75, .ref 76, .ref 77, .ref 78, .ref 79, .ref 80, .ref 81, .ref 82, .ref 83, .ref 84, .ref 85, .ref 86, .ref 87, .ref 88, .ref 89, .ref 90, .ref 91, .ref 92, .ref 93, .ref 94, .ref 95, .ref 96, .ref 97, .ref 98, .ref 99, .ref 100, .ref 101, .ref 102, .ref 103, .ref 104, .ref 105, .ref 106, .ref 107, .ref 108, .ref 109, .ref 110, .ref 111, .ref 112, .ref 113, .ref 114, .ref 115, .ref 116, .ref 117, .ref 118, .ref 119, .ref 120, .ref 121, .ref 122, .ref 123, .ref 124, .ref 125, .ref 126, .ref 127, .ref 128, .ref 129, .ref 130, .ref 131, .ref 132, .ref 133, .ref 134, .ref 135, .ref 136, .ref 137, .ref 138, .ref 139, .ref 140, .ref 141, .ref 142, .ref 143, .ref 144, .ref 145, .ref 146, .ref 147, .ref 148, .ref 149, .ref 150, .ref 151, .ref 152, .ref 153, .ref 154, .ref 155, .ref 156, .ref 157, .ref 158, .ref 159, .ref 160, .ref 161, .ref 162, .ref 163, .ref 164, .ref 165, .ref 166, .ref 167, .ref 168, .ref 169, .ref 170, .ref 171, .ref 172, .ref 173, .ref 174, .ref 175, .ref 176, .ref 177, .ref 178, .ref 179, .ref 180, .ref 181, .ref 182, .ref 183, .ref 184, .ref 185, .ref 186, .ref 187, .ref 188, .ref 189, .ref 190, .ref 191, .ref 192, .ref 193, .ref 194, .ref 195, .ref 196, .ref 197, .ref 198, .ref 199, .ref 200, .ref 201, .ref 202, .ref 203, .ref 204, .ref 205, .ref 206, .ref 207, .ref 208, .ref 209, .ref 210, .ref 211, .ref 212, .ref 213, .ref 214, .ref 215, .ref 216, .ref 217, .ref 218, .ref 219, .ref 220, .ref 221, .ref 222, .ref 223, .ref 224, .ref 225, .ref 226, .ref 227, .ref 228, .ref 229, .ref 230, .ref 231, .ref 232, .ref 233, .ref 234, .ref 235, .ref 236, .ref 237, .ref 238, .ref 239, .ref 240, .ref 241, .ref 242, .ref 243, .ref 244, .ref 245, .ref 246, .ref 247, .ref 248, .ref 249, .ref 250, .ref 251, .ref 252, .ref 253, .ref 254, .ref 255, .ref 256, .ref 257], vm := .none },
  { cls := 9, slots := #[.int (-128)], vm := .none },
  { cls := 9, slots := #[.int (-127)], vm := .none },
  { cls := 9, slots := #[.int (-126)], vm := .none },
  { cls := 9, slots := #[.int (-125)], vm := .none },
  { cls := 9, slots := #[.int (-124)], vm := .none },
  { cls := 9, slots := #[.int (-123)], vm := .none },
  { cls := 9, slots := #[.int (-122)], vm := .none },
  { cls := 9, slots := #[.int (-121)], vm := .none },
  { cls := 9, slots := #[.int (-120)], vm := .none },
  { cls := 9, slots := #[.int (-119)], vm := .none },
  { cls := 9, slots := #[.int (-118)], vm := .none },
  { cls := 9, slots := #[.int (-117)], vm := .none },
  { cls := 9, slots := #[.int (-116)], vm := .none },
  { cls := 9, slots := #[.int (-115)], vm := .none },
  { cls := 9, slots := #[.int (-114)], vm := .none },
  { cls := 9, slots := #[.int (-113)], vm := .none },
  { cls := 9, slots := #[.int (-112)], vm := .none },
  { cls := 9, slots := #[.int (-111)], vm := .none },
  { cls := 9, slots := #[.int (-110)], vm := .none },
  { cls := 9, slots := #[.int (-109)], vm := .none },
  { cls := 9, slots := #[.int (-108)], vm := .none },
  { cls := 9, slots := #[.int (-107)], vm := .none },
  { cls := 9, slots := #[.int (-106)], vm := .none },
  { cls := 9, slots := #[.int (-105)], vm := .none },
  { cls := 9, slots := #[.int (-104)], vm := .none },
  { cls := 9, slots := #[.int (-103)], vm := .none },
  { cls := 9, slots := #[.int (-102)], vm := .none },
  { cls := 9, slots := #[.int (-101)], vm := .none },
  { cls := 9, slots := #[.int (-100)], vm := .none },
  { cls := 9, slots := #[.int (-99)], vm := .none },
  { cls := 9, slots := #[.int (-98)], vm := .none },
  { cls := 9, slots := #[.int (-97)], vm := .none },
  { cls := 9, slots := #[.int (-96)], vm := .none },
  { cls := 9, slots := #[.int (-95)], vm := .none },
  { cls := 9, slots := #[.int (-94)], vm := .none },
  { cls := 9, slots := #[.int (-93)], vm := .none },
  { cls := 9, slots := #[.int (-92)], vm := .none },
  { cls := 9, slots := #[.int (-91)], vm := .none },
  { cls := 9, slots := #[.int (-90)], vm := .none },
  { cls := 9, slots := #[.int (-89)], vm := .none },
  { cls := 9, slots := #[.int (-88)], vm := .none },
  { cls := 9, slots := #[.int (-87)], vm := .none },
  { cls := 9, slots := #[.int (-86)], vm := .none },
  { cls := 9, slots := #[.int (-85)], vm := .none },
  { cls := 9, slots := #[.int (-84)], vm := .none },
  { cls := 9, slots := #[.int (-83)], vm := .none },
  { cls := 9, slots := #[.int (-82)], vm := .none },
  { cls := 9, slots := #[.int (-81)], vm := .none },
  { cls := 9, slots := #[.int (-80)], vm := .none },
  { cls := 9, slots := #[.int (-79)], vm := .none },
  { cls := 9, slots := #[.int (-78)], vm := .none },
  { cls := 9, slots := #[.int (-77)], vm := .none },
  { cls := 9, slots := #[.int (-76)], vm := .none },
  { cls := 9, slots := #[.int (-75)], vm := .none },
  { cls := 9, slots := #[.int (-74)], vm := .none },
  { cls := 9, slots := #[.int (-73)], vm := .none },
  { cls := 9, slots := #[.int (-72)], vm := .none },
  { cls := 9, slots := #[.int (-71)], vm := .none },
  { cls := 9, slots := #[.int (-70)], vm := .none },
  { cls := 9, slots := #[.int (-69)], vm := .none },
  { cls := 9, slots := #[.int (-68)], vm := .none },
  { cls := 9, slots := #[.int (-67)], vm := .none },
  { cls := 9, slots := #[.int (-66)], vm := .none },
  { cls := 9, slots := #[.int (-65)], vm := .none },
  { cls := 9, slots := #[.int (-64)], vm := .none },
  { cls := 9, slots := #[.int (-63)], vm := .none },
  { cls := 9, slots := #[.int (-62)], vm := .none },
  { cls := 9, slots := #[.int (-61)], vm := .none },
  { cls := 9, slots := #[.int (-60)], vm := .none },
  { cls := 9, slots := #[.int (-59)], vm := .none },
  { cls := 9, slots := #[.int (-58)], vm := .none },
  { cls := 9, slots := #[.int (-57)], vm := .none },
  { cls := 9, slots := #[.int (-56)], vm := .none },
  { cls := 9, slots := #[.int (-55)], vm := .none },
  { cls := 9, slots := #[.int (-54)], vm := .none },
  { cls := 9, slots := #[.int (-53)], vm := .none },
  { cls := 9, slots := #[.int (-52)], vm := .none },
  { cls := 9, slots := #[.int (-51)], vm := .none },
  { cls := 9, slots := #[.int (-50)], vm := .none },
  { cls := 9, slots := #[.int (-49)], vm := .none },
  { cls := 9, slots := #[.int (-48)], vm := .none },
  { cls := 9, slots := #[.int (-47)], vm := .none },
  { cls := 9, slots := #[.int (-46)], vm := .none },
  { cls := 9, slots := #[.int (-45)], vm := .none },
  { cls := 9, slots := #[.int (-44)], vm := .none },
  { cls := 9, slots := #[.int (-43)], vm := .none },
  { cls := 9, slots := #[.int (-42)], vm := .none },
  { cls := 9, slots := #[.int (-41)], vm := .none },
  { cls := 9, slots := #[.int (-40)], vm := .none },
  { cls := 9, slots := #[.int (-39)], vm := .none },
  { cls := 9, slots := #[.int (-38)], vm := .none },
  { cls := 9, slots := #[.int (-37)], vm := .none },
  { cls := 9, slots := #[.int (-36)], vm := .none },
  { cls := 9, slots := #[.int (-35)], vm := .none },
  { cls := 9, slots := #[.int (-34)], vm := .none },
  { cls := 9, slots := #[.int (-33)], vm := .none },
  { cls := 9, slots := #[.int (-32)], vm := .none },
  { cls := 9, slots := #[.int (-31)], vm := .none },
  { cls := 9, slots := #[.int (-30)], vm := .none },
  { cls := 9, slots := #[.int (-29)], vm := .none },
  { cls := 9, slots := #[.int (-28)], vm := .none },
  { cls := 9, slots := #[.int (-27)], vm := .none },
  { cls := 9, slots := #[.int (-26)], vm := .none },
  { cls := 9, slots := #[.int (-25)], vm := .none },
  { cls := 9, slots := #[.int (-24)], vm := .none },
  { cls := 9, slots := #[.int (-23)], vm := .none },
  { cls := 9, slots := #[.int (-22)], vm := .none },
  { cls := 9, slots := #[.int (-21)], vm := .none },
  { cls := 9, slots := #[.int (-20)], vm := .none },
  { cls := 9, slots := #[.int (-19)], vm := .none },
  { cls := 9, slots := #[.int (-18)], vm := .none },
  { cls := 9, slots := #[.int (-17)], vm := .none },
  { cls := 9, slots := #[.int (-16)], vm := .none },
  { cls := 9, slots := #[.int (-15)], vm := .none },
  { cls := 9, slots := #[.int (-14)], vm := .none },
  { cls := 9, slots := #[.int (-13)], vm := .none },
  { cls := 9, slots := #[.int (-12)], vm := .none },
  { cls := 9, slots := #[.int (-11)], vm := .none },
  { cls := 9, slots := #[.int (-10)], vm := .none },
  { cls := 9, slots := #[.int (-9)], vm := .none },
  { cls := 9, slots := #[.int (-8)], vm := .none },
  { cls := 9, slots := #[.int (-7)], vm := .none },
  { cls := 9, slots := #[.int (-6)], vm := .none },
  { cls := 9, slots := #[.int (-5)], vm := .none },
  { cls := 9, slots := #[.int (-4)], vm := .none },
  { cls := 9, slots := #[.int (-3)], vm := .none },
  { cls := 9, slots := #[.int (-2)], vm := .none },
  { cls := 9, slots := #[.int (-1)], vm := .none },
  { cls := 9, slots := #[.int (0)], vm := .none },
  { cls := 9, slots := #[.int (1)], vm := .none },
  { cls := 9, slots := #[.int (2)], vm := .none },
  { cls := 9, slots := #[.int (3)], vm := .none },
  { cls := 9, slots := #[.int (4)], vm := .none },
  { cls := 9, slots := #[.int (5)], vm := .none },
  { cls := 9, slots := #[.int (6)], vm := .none },
  { cls := 9, slots := #[.int (7)], vm := .none },
  { cls := 9, slots := #[.int (8)], vm := .none },
  { cls := 9, slots := #[.int (9)], vm := .none },
  { cls := 9, slots := #[.int (10)], vm := .none },
  { cls := 9, slots := #[.int (11)], vm := .none },
  { cls := 9, slots := #[.int (12)], vm := .none },
  { cls := 9, slots := #[.int (13)], vm := .none },
  { cls := 9, slots := #[.int (14)], vm := .none },
  { cls := 9, slots := #[.int (15)], vm := .none },
  { cls := 9, slots := #[.int (16)], vm := .none },
  { cls := 9, slots := #[.int (17)], vm := .none },
  { cls := 9, slots := #[.int (18)], vm := .none },
  { cls := 9, slots := #[.int (19)], vm := .none },
  { cls := 9, slots := #[.int (20)], vm := .none },
  { cls := 9, slots := #[.int (21)], vm := .none },
  { cls := 9, slots := #[.int (22)], vm := .none },
  { cls := 9, slots := #[.int (23)], vm := .none },
  { cls := 9, slots := #[.int (24)], vm := .none },
  { cls := 9, slots := #[.int (25)], vm := .none },
  { cls := 9, slots := #[.int (26)], vm := .none },
  { cls := 9, slots := #[.int (27)], vm := .none },
  { cls := 9, slots := #[.int (28)], vm := .none },
  { cls := 9, slots := #[.int (29)], vm := .none },
  { cls := 9, slots := #[.int (30)], vm := .none },
  { cls := 9, slots := #[.int (31)], vm := .none },
  { cls := 9, slots := #[.int (32)], vm := .none },
  { cls := 9, slots := #[.int (33)], vm := .none },
  { cls := 9, slots := #[.int (34)], vm := .none },
  { cls := 9, slots := #[.int (35)], vm := .none },
  { cls := 9, slots := #[.int (36)], vm := .none },
  { cls := 9, slots := #[.int (37)], vm := .none },
  { cls := 9, slots := #[.int (38)], vm := .none },
  { cls := 9, slots := #[.int (39)], vm := .none },
  { cls := 9, slots := #[.int (40)], vm := .none },
  { cls := 9, slots := #[.int (41)], vm := .none },
  { cls := 9, slots := #[.int (42)], vm := .none },
  { cls := 9, slots := #[.int (43)], vm := .none },
  { cls := 9, slots := #[.int (44)], vm := .none },
  { cls := 9, slots := #[.int (45)], vm := .none },
  { cls := 9, slots := #[.int (46)], vm := .none },
  { cls := 9, slots := #[.int (47)], vm := .none },
  { cls := 9, slots := #[.int (48)], vm := .none },
  { cls := 9, slots := #[.int (49)], vm := .none },
  { cls := 9, slots := #[.int (50)], vm := .none },
  { cls := 9, slots := #[.int (51)], vm := .none },
  { cls := 9, slots := #[.int (52)], vm := .none },
  { cls := 9, slots := #[.int (53)], vm := .none },
  { cls := 9, slots := #[.int (54)], vm := .none },
  { cls := 9, slots := #[.int (55)], vm := .none },
  { cls := 9, slots := #[.int (56)], vm := .none },
  { cls := 9, slots := #[.int (57)], vm := .none },
  { cls := 9, slots := #[.int (58)], vm := .none },
  { cls := 9, slots := #[.int (59)], vm := .none },
  { cls := 9, slots := #[.int (60)], vm := .none },
  { cls := 9, slots := #[.int (61)], vm := .none },
  { cls := 9, slots := #[.int (62)], vm := .none },
  { cls := 9, slots := #[.int (63)], vm := .none },
  { cls := 9, slots := #[.int (64)], vm := .none },
  { cls := 9, slots := #[.int (65)], vm := .none },
  { cls := 9, slots := #[.int (66)], vm := .none },
  { cls := 9, slots := #[.int (67)], vm := .none },
  { cls := 9, slots := #[.int (68)], vm := .none },
  { cls := 9, slots := #[.int (69)], vm := .none },
  { cls := 9, slots := #[.int (70)], vm := .none },
  { cls := 9, slots := #[.int (71)], vm := .none },
  { cls := 9, slots := #[.int (72)], vm := .none },
  { cls := 9, slots := #[.int (73)], vm := .none },
  { cls := 9, slots := #[.int (74)], vm := .none },
  { cls := 9, slots := #[.int (75)], vm := .none },
  { cls := 9, slots := #[.int (76)], vm := .none },
  { cls := 9, slots := #[.int (77)], vm := .none },
  { cls := 9, slots := #[.int (78)], vm := .none },
  { cls := 9, slots := #[.int (79)], vm := .none },
  { cls := 9, slots := #[.int (80)], vm := .none },
  { cls := 9, slots := #[.int (81)], vm := .none },
  { cls := 9, slots := #[.int (82)], vm := .none },
  { cls := 9, slots := #[.int (83)], vm := .none },
  { cls := 9, slots := #[.int (84)], vm := .none },
  { cls := 9, slots := #[.int (85)], vm := .none },
  { cls := 9, slots := #[.int (86)], vm := .none },
  { cls := 9, slots := #[.int (87)], vm := .none },
  { cls := 9, slots := #[.int (88)], vm := .none },
  { cls := 9, slots := #[.int (89)], vm := .none },
  { cls := 9, slots := #[.int (90)], vm := .none },
  { cls := 9, slots := #[.int (91)], vm := .none },
  { cls := 9, slots := #[.int (92)], vm := .none },
  { cls := 9, slots := #[.int (93)], vm := .none },
  { cls := 9, slots := #[.int (94)], vm := .none },
  { cls := 9, slots := #[.int (95)], vm := .none },
  { cls := 9, slots := #[.int (96)], vm := .none },
  { cls := 9, slots := #[.int (97)], vm := .none },
  { cls := 9, slots := #[.int (98)], vm := .none },
  { cls := 9, slots := #[.int (99)], vm := .none },
  { cls := 9, slots := #[.int (100)], vm := .none },
  { cls := 9, slots := #[.int (101)], vm := .none },
  { cls := 9, slots := #[.int (102)], vm := .none },
  { cls := 9, slots := #[.int (103)], vm := .none },
  { cls := 9, slots := #[.int (104)], vm := .none },
  { cls := 9, slots := #[.int (105)], vm := .none },
  { cls := 9, slots := #[.int (106)], vm := .none },
  { cls := 9, slots := #[.int (107)], vm := .none },
  { cls := 9, slots := #[.int (108)], vm := .none },
  { cls := 9, slots := #[.int (109)], vm := .none },
  { cls := 9, slots := #[.int (110)], vm := .none },
  { cls := 9, slots := #[.int (111)], vm := .none },
  { cls := 9, slots := #[.int (112)], vm := .none },
  { cls := 9, slots := #[.int (113)], vm := .none },
  { cls := 9, slots := #[.int (114)], vm := .none },
  { cls := 9, slots := #[.int (115)], vm := .none },
  { cls := 9, slots := #[.int (116)], vm := .none },
  { cls := 9, slots := #[.int (117)], vm := .none },
  { cls := 9, slots := #[.int (118)], vm := .none },
  { cls := 9, slots := #[.int (119)], vm := .none },
  { cls := 9, slots := #[.int (120)], vm := .none },
  { cls := 9, slots := #[.int (121)], vm := .none },
  { cls := 9, slots := #[.int (122)], vm := .none },
  { cls := 9, slots := #[.int (123)], vm := .none },
  { cls := 9, slots := #[.int (124)], vm := .none },
  { cls := 9, slots := #[.int (125)], vm := .none },
  { cls := 9, slots := #[.int (126)], vm := .none },
  { cls := 9, slots := #[.int (127)], vm := .none }]
def classes : Array Class := #[k0, k1, k2, k3, k4, k5, k6, k7, k8, k9, k10, k11, k12, k13, k14, k15, k16]
def interned : List (Array UInt16 × Addr) := []
def slotsUsed : Nat := 517
def theMethod : MethodId := ⟨1, 1⟩
def args0 : Array Value := #[.int 1, .int 2, .int 3, .int 4, .int 6]
def aboutOver (below : List Frame) : State where
  vm := { classes := classes, interned := interned.toArray }
  heap := heap
  slotsUsed := slotsUsed
  threads := #[{ frames := .invoking theMethod args0 :: below }]
def below0 : List Frame := [.native { method := ⟨0, 0⟩, args := #[] }]
def about1 : State := aboutOver below0
def p0 : Program := .bare "" "" ""
def e0 : Env := launch0.env 0 0 0
theorem w_frames : about1.frames = Frame.invoking theMethod args0 :: below0 := rfl
set_option maxRecDepth 65536 in
theorem w_args : argsFit about1.vm theMethod args0 = true := by decide +kernel
set_option maxRecDepth 65536 in
theorem w_heap : heapFits about1 = true := by decide +kernel
set_option maxRecDepth 65536 in
theorem w_runnable : about1.curStatus? = some .runnable := by decide +kernel
set_option maxRecDepth 65536 in
theorem w_alone : about1.alone = true := by decide +kernel
set_option maxRecDepth 65536 in
theorem w_named : about1.methodNamed? x = some theMethod := by decide +kernel
set_option maxRecDepth 65536 in
theorem w_hears : about1.hears theMethod below0 = true := by decide +kernel
set_option maxRecDepth 65536 in
theorem w_ripe : about1.ripe theMethod args0 below0 = true := by decide +kernel
theorem w_running : about1.status = .running := rfl
set_option maxRecDepth 65536 in
theorem w_room : about1.hasRoom e0.platform room_1 = true :=
  launch0.hasRoom_least _ room_1 (by decide +kernel) (by decide +kernel) (by decide +kernel) (by decide +kernel) (by decide +kernel) (by decide +kernel)
theorem allAtoms_all (ts : List Jvm.Cond) (a : Array Jvm.Value) (st : Jvm.State) : (allAtoms ts).before a st = ts.all (fun c => c.before a st) := by
  induction ts with
  | nil => rfl
  | cons c t ih =>
    show (Jvm.Cond.and c (allAtoms t)).before a st = _
    rw [Jvm.Cond.before_and, ih, List.all_cons]
def words1 : List Jvm.Cond := Jvm.Cond.code x code maxLocals ret :: tables_1
/-- a 'code' word, met by the world's own term for the bytes: nothing is compared byte by byte -/
theorem code_word {y : MethodName} {bytes : ByteArray} {mx : Nat} {rt : Option FieldType} {a : Array Value} {s : State} {m : MethodId} {meth : Method} {c : Code} (h1 : s.methodNamed? y = some m) (h2 : s.vm.method? m = some meth) (h3 : meth.code = some c) (h4 : c.code = bytes)
    (h5 : (c.maxLocals == mx && c.exceptionTable.isEmpty && decide (c.maxStack ≤ mostOperands) && decide (meth.sig.returnType = rt) && !meth.locks && decide (parseMethodDescriptor y.desc = some meth.sig)) = true) : (Jvm.Cond.code y bytes mx rt).before a s = true := by
  simp only [Bool.and_eq_true, beq_iff_eq, Bool.not_eq_true', decide_eq_true_eq] at h5
  obtain ⟨⟨⟨⟨⟨g1, g2⟩, g3⟩, g4⟩, g5⟩, g6⟩ := h5
  simp [Cond.before, Cond.holds, Cond.value, h1, h2, h3, h4, g1, g2, g3, g4, g5, g6]
def isCode : Jvm.Cond → Bool
  | .code _ _ _ _ => true
  | _ => false
theorem all_split {L : List Jvm.Cond} {P : Jvm.Cond → Bool} (h1 : L.all (fun c => isCode c || P c) = true) (h2 : ∀ c ∈ L.filter isCode, P c = true) : L.all P = true := by
  refine List.all_eq_true.mpr fun c hc => ?_
  have h := List.all_eq_true.mp h1 c hc
  rcases Bool.eq_false_or_eq_true (isCode c) with hi | hi
  · exact h2 c (List.mem_filter.mpr ⟨hc, hi⟩)
  · simpa [hi] using h
set_option maxRecDepth 65536 in
theorem w_c0 : (Jvm.Cond.code x code maxLocals ret).before args0 about1 = true := code_word (m := ⟨1, 1⟩) (meth := k1m1) (c := k1c1) (by decide +kernel) rfl rfl rfl (by decide +kernel)
set_option maxRecDepth 65536 in
theorem w_c1 : (Jvm.Cond.code ({ cls := "java/lang/Math", name := "min", desc := "(II)I" } : Jvm.MethodName) jdk_29_method_69_code (2 : Nat) (Option.some Jvm.ClassFile.FieldType.int)).before args0 about1 = true := code_word (m := ⟨2, 2⟩) (meth := k2m2) (c := k2c2) (by decide +kernel) rfl rfl rfl (by decide +kernel)
set_option maxRecDepth 65536 in
theorem w_c2 : (Jvm.Cond.code ({ cls := "java/lang/Math", name := "max", desc := "(II)I" } : Jvm.MethodName) jdk_29_method_65_code (2 : Nat) (Option.some Jvm.ClassFile.FieldType.int)).before args0 about1 = true := code_word (m := ⟨2, 1⟩) (meth := k2m1) (c := k2c1) (by decide +kernel) rfl rfl rfl (by decide +kernel)
set_option maxRecDepth 65536 in
theorem w_c3 : (Jvm.Cond.code ({ cls := "com/example/ref_access_rules/refaccessrules/rule/VoteRange", name := "<init>", desc := "(II)V" } : Jvm.MethodName) prog_41_method_1_code (3 : Nat) (Option.none : Option Jvm.ClassFile.FieldType)).before args0 about1 = true := code_word (m := ⟨3, 0⟩) (meth := k3m0) (c := k3c0) (by decide +kernel) rfl rfl rfl (by decide +kernel)
set_option maxRecDepth 65536 in
theorem w_c4 : (Jvm.Cond.code ({ cls := "java/lang/Object", name := "<init>", desc := "()V" } : Jvm.MethodName) object_method_1_code (1 : Nat) (Option.none : Option Jvm.ClassFile.FieldType)).before args0 about1 = true := code_word (m := ⟨0, 0⟩) (meth := k0m0) (c := k0c0) (by decide +kernel) rfl rfl rfl (by decide +kernel)
set_option maxRecDepth 65536 in
theorem w_c5 : (Jvm.Cond.code ({ cls := "com/example/ref_access_rules/refaccessrules/rule/VoteRange", name := "equals", desc := "(Ljava/lang/Object;)Z" } : Jvm.MethodName) prog_41_method_6_code (3 : Nat) (Option.some Jvm.ClassFile.FieldType.boolean)).before args0 about1 = true := code_word (m := ⟨3, 1⟩) (meth := k3m1) (c := k3c1) (by decide +kernel) rfl rfl rfl (by decide +kernel)
set_option maxRecDepth 65536 in
theorem w_c6 : (Jvm.Cond.code ({ cls := "java/lang/Integer", name := "valueOf", desc := "(I)Ljava/lang/Integer;" } : Jvm.MethodName) jdk_33_method_22_code (1 : Nat) (Option.some (Jvm.ClassFile.FieldType.object "java/lang/Integer"))).before args0 about1 = true := code_word (m := ⟨9, 0⟩) (meth := k9m0) (c := k9c0) (by decide +kernel) rfl rfl rfl (by decide +kernel)
set_option maxRecDepth 65536 in
theorem w_c7 : (Jvm.Cond.code ({ cls := "java/lang/Integer", name := "<init>", desc := "(I)V" } : Jvm.MethodName) jdk_33_method_23_code (2 : Nat) (Option.none : Option Jvm.ClassFile.FieldType)).before args0 about1 = true := code_word (m := ⟨9, 1⟩) (meth := k9m1) (c := k9c1) (by decide +kernel) rfl rfl rfl (by decide +kernel)
set_option maxRecDepth 65536 in
theorem w_c8 : (Jvm.Cond.code ({ cls := "java/lang/Number", name := "<init>", desc := "()V" } : Jvm.MethodName) jdk_18_method_1_code (1 : Nat) (Option.none : Option Jvm.ClassFile.FieldType)).before args0 about1 = true := code_word (m := ⟨5, 0⟩) (meth := k5m0) (c := k5c0) (by decide +kernel) rfl rfl rfl (by decide +kernel)
def codes1 : List Jvm.Cond := [Jvm.Cond.code x code maxLocals ret, Jvm.Cond.code ({ cls := "java/lang/Math", name := "min", desc := "(II)I" } : Jvm.MethodName) jdk_29_method_69_code (2 : Nat) (Option.some Jvm.ClassFile.FieldType.int), Jvm.Cond.code ({ cls := "java/lang/Math", name := "max", desc := "(II)I" } : Jvm.MethodName) jdk_29_method_65_code (2 : Nat) (Option.some Jvm.ClassFile.FieldType.int), Jvm.Cond.code ({ cls := "com/example/ref_access_rules/refaccessrules/rule/VoteRange", name := "<init>", desc := "(II)V" } : Jvm.MethodName) prog_41_method_1_code (3 : Nat) (Option.none : Option Jvm.ClassFile.FieldType), Jvm.Cond.code ({ cls := "java/lang/Object", name := "<init>", desc := "()V" } : Jvm.MethodName) object_method_1_code (1 : Nat) (Option.none : Option Jvm.ClassFile.FieldType), Jvm.Cond.code ({ cls := "com/example/ref_access_rules/refaccessrules/rule/VoteRange", name := "equals", desc := "(Ljava/lang/Object;)Z" } : Jvm.MethodName) prog_41_method_6_code (3 : Nat) (Option.some Jvm.ClassFile.FieldType.boolean), Jvm.Cond.code ({ cls := "java/lang/Integer", name := "valueOf", desc := "(I)Ljava/lang/Integer;" } : Jvm.MethodName) jdk_33_method_22_code (1 : Nat) (Option.some (Jvm.ClassFile.FieldType.object "java/lang/Integer")), Jvm.Cond.code ({ cls := "java/lang/Integer", name := "<init>", desc := "(I)V" } : Jvm.MethodName) jdk_33_method_23_code (2 : Nat) (Option.none : Option Jvm.ClassFile.FieldType), Jvm.Cond.code ({ cls := "java/lang/Number", name := "<init>", desc := "()V" } : Jvm.MethodName) jdk_18_method_1_code (1 : Nat) (Option.none : Option Jvm.ClassFile.FieldType)]
set_option maxRecDepth 65536 in
theorem codes_eq : words1.filter isCode = codes1 := rfl
theorem w_codes : ∀ c ∈ words1.filter isCode, c.before args0 about1 = true := by
  rw [codes_eq]
  intro c hc
  simp only [codes1, List.mem_cons, List.not_mem_nil, or_false] at hc
  rcases hc with rfl | rfl | rfl | rfl | rfl | rfl | rfl | rfl | rfl
  · exact w_c0
  · exact w_c1
  · exact w_c2
  · exact w_c3
  · exact w_c4
  · exact w_c5
  · exact w_c6
  · exact w_c7
  · exact w_c8
set_option maxRecDepth 65536 in
theorem w_t1 : (words1.take 24).all (fun c => isCode c || c.before args0 about1) = true := by decide +kernel
set_option maxRecDepth 65536 in
theorem w_t2 : ((words1.drop 24).take 24).all (fun c => isCode c || c.before args0 about1) = true := by decide +kernel
set_option maxRecDepth 65536 in
theorem w_t3 : ((words1.drop 24).drop 24).all (fun c => isCode c || c.before args0 about1) = true := by decide +kernel
theorem w_tables : (allAtoms (Jvm.Cond.code x code maxLocals ret :: tables_1)).before args0 about1 = true := by
  rw [allAtoms_all]
  show words1.all (fun c => c.before args0 about1) = true
  refine all_split ?_ w_codes
  rw [← List.take_append_drop 24 words1, List.all_append, w_t1, ← List.take_append_drop 24 (words1.drop 24), List.all_append, w_t2, w_t3]
  rfl
set_option maxRecDepth 65536 in
theorem w_rest : rest_1_c.before args0 about1 = true := by decide +kernel
set_option maxRecDepth 65536 in
theorem w_case : (Jvm.Cond.and given_1 narrow_1).before args0 about1 = true := by decide +kernel
theorem w_applies : (headSpec (Jvm.Cond.code x code maxLocals ret :: tables_1) room_1).applies x e0.platform about1 = true :=
  (Spec.applies_iff w_frames).mpr ⟨w_running, w_runnable, w_alone, w_named, w_hears, w_ripe, w_room, w_tables⟩
theorem atStart : AtStart classFile x code maxLocals ret World_1 tables_1 room_1 Calls_1 rest_1 Pre_1 launch0 p0 e0 about1 theMethod args0 below0 :=
  ⟨lists_1, trivial, launch0.admits_env _ _ _, launch0.least_env, fairChoices_fair.cas, fairChoices_fair.clock, w_frames, w_args, w_heap, w_applies, trivial, w_rest, w_case⟩
end start1
theorem witness_1 : WitnessClaimed_1 := ⟨start1.p0, start1.e0, start1.about1, start1.theMethod, start1.args0, start1.below0, start1.atStart⟩
end Jvm.Pilot.@@N@@
