import JvmDerived
import JvmDerived.Pilot.@@N@@Statement
import JvmDerived.Pilot.@@N@@Code
set_option linter.unusedVariables false
set_option linter.unusedSimpArgs false
namespace Jvm.Own
open Sem ClassFile Op Lib Jvm.Stand Jvm.Free Jvm.LawKit Jvm.RoadKit
/-- what stays put in the walk of one body: program, environment, the state at the call, the method, its arguments, the frames below, its record and code, the state behind the entry, the entry frame -/
abbrev Dyn : Type := Program × Env × State × MethodId × Array Value × List Frame × Method × Code × State × JFrame
def Base (Z : State) (y : MethodName) (bytes : ByteArray) (mx : Nat) (rt : Option FieldType) (D : Dyn) : Prop :=
  match D with
  | (p, _, s, m, _, _, meth, c, _, _) => p.tables.exec = Jvm.exec ∧ c.code = bytes ∧ c.maxLocals = mx ∧ s.vm.findClass y.cls = some m.cls ∧ Z.Warmed39 s.vm ∧ meth.sig.returnType = rt ∧ meth.locks = false ∧ meth.name = y.name
/-- the walk has come to pc with these locals, this stack, this heap; k cells and n slots have been made -/
def Rch (l : Launch) (Z : State) (n0 : Nat) (R : Room) (y : MethodName) (bytes : ByteArray) (mx : Nat) (rt : Option FieldType) (D : Dyn) (h : Heap) (k n pc : Nat) (Ls : Array Slot) (st : List Value) : Prop :=
  Base Z y bytes mx rt D ∧
  match D with
  | (p, e, s, m, args, below, meth, c, s₁, g0) => ∃ (T : State) (locs : List Loc), Stand p l e R s m args below meth c T locs k n ∧ T.heap = h ∧ Fr n0 locs ∧ Steps p.tables e below (s₁.setTop g0) (T.setTop (mkF m pc Ls st))
/-- the body has returned v and left the heap h -/
def Don (l : Launch) (Z : State) (n0 : Nat) (R : Room) (D : Dyn) (h : Heap) (k n : Nat) (v : Option Value) : Prop :=
  match D with
  | (p, e, s, m, args, below, meth, c, s₁, g0) => ∃ (T : State) (locs : List Loc) (fs : List Frame), Stand p l e R s m args below meth c T locs k n ∧ T.heap = h ∧ Fr n0 locs ∧ Steps p.tables e below (s₁.setTop g0) (T.setFrames fs) ∧ (T.setFrames fs).heap = h ∧
      (T.setFrames fs).status = .running ∧ Ended (T.setFrames fs) below (.returned v) ∧ s.WarmedH (T.setFrames fs).vm ∧ s.sameButNew ({ T.setFrames fs with vm := s.vm } : State) locs k n
/-- a callee's contract at the heap h and the arguments as' -/
def Con (l : Launch) (Z : State) (n0 : Nat) (y : MethodName) (bytes : ByteArray) (mx : Nat) (rt : Option FieldType) (rm : Room) (as' : Array Value) (h : Heap) (Q : Option Value → Heap → Prop) : Prop :=
  ∀ ws : List Jvm.Cond, MetFree l y (head1 (Jvm.Cond.code y bytes mx rt :: ws) rm) (fun a U => a = as' ∧ Z.Warmed39 U.vm ∧ U.heap = h) (fun _ _ _ _ _ => True) (fun _ U o U' => ∃ v L, o = .returned v ∧ (Fr n0 L ∧ Q v U'.heap) ∧ FrameEnd U o U' L rm.cells rm.slots)
def ishlW (x z : Int32) : Int32 := x <<< (z &&& 31)
def ishrW (x z : Int32) : Int32 := x >>> (z &&& 31)
def iushrW (x z : Int32) : Int32 := (x.toUInt32 >>> (z &&& 31).toUInt32).toInt32
def lshlW (x : Int64) (z : Int32) : Int64 := x <<< (z &&& 0x3f).toInt64
def lshrW (x : Int64) (z : Int32) : Int64 := x >>> (z &&& 0x3f).toInt64
def lushrW (x : Int64) (z : Int32) : Int64 := (x.toUInt64 >>> (z &&& 0x3f).toInt64.toUInt64).toInt64
def lremW (x z : Int64) : Int64 := x - (x / z) * z
def i2bW (x : Int32) : Int32 := x.toInt8.toInt32
def i2cW (x : Int32) : Int32 := x.toUInt32.toUInt16.toUInt32.toInt32
def i2sW (x : Int32) : Int32 := x.toInt16.toInt32
/-- an element of an int list, by a Java index -/
def ga (L : List Int32) (j : Int32) : Int32 := L.getD j.toNatClampNeg 0
section Kit
variable {l : Launch} {Z : State} {a0 : Array Value} {n0 : Nat} {R : Room} {y : MethodName} {bytes : ByteArray} {mx : Nat} {rt : Option FieldType} {D : Dyn} {h h' : Heap} {k n pc : Nat} {Ls : Array Slot} {st : List Value}
theorem Con.enter {rm : Room} {as' : Array Value} {Q : Option Value → Heap → Prop} (hp : plainFor y = true) (ef : ∀ m, entryFrame m as' mx = mkF m 0 Ls [])
    (f : ∀ D : Dyn, Rch l Z n0 rm y bytes mx rt D h 0 0 0 Ls [] → ∃ v h', Don l Z n0 rm D h' rm.cells rm.slots v ∧ Q v h') : Con l Z n0 y bytes mx rt rm as' h Q := by
  intro ws
  refine MetFree.of_bodySF hp hisR ?_
  intro p e s m args below meth c s₁ Bd hml0 hP hK
  obtain ⟨rfl, hZ, hh⟩ := hP
  have X0 : Stand p l e rm s m args below meth c s₁ [] 0 0 := Stand.of_body Bd
  have e0 : s₁.heap = h := by rw [← hh, Bd.state]; rfl
  obtain ⟨v, h', hD, hQ⟩ := f (p, e, s, m, args, below, meth, c, s₁, mkF m 0 Ls []) ⟨⟨Bd.exec, Bd.bytes, hml0, findClass_of_methodNamed Bd.named, hZ, Bd.returns, Bd.notSynchronized, (name_of_methodNamed Bd.named Bd.method).1⟩, s₁, [], X0, e0, Fr.nil n0, Steps.refl _⟩
  obtain ⟨T, locs, fs, X, eT, N, hs, hh', hrun, hend, hW, hsame⟩ := hD
  exact ⟨_, _, castTop (ef m) hs, hrun, hend, v, locs, rfl, ⟨N, hh'.symm ▸ hQ⟩, ⟨_, rfl⟩, hW, hsame⟩
theorem Rch.go (r : Rch l Z n0 R y bytes mx rt D h k n pc Ls st) {pc' : Nat} {Ls' : Array Slot} {st' : List Value}
    (f : ∀ {p : Program} {e : Env} {s : State} {m : MethodId} {args : Array Value} {below : List Frame} {meth : Method} {c : Code} {T : State} {locs : List Loc}, Stand p l e R s m args below meth c T locs k n → p.tables.exec = Jvm.exec → c.code = bytes → Z.Warmed39 s.vm → s.vm.findClass y.cls = some m.cls → T.heap = h →
      ∀ target, Steps p.tables e below (T.setTop (mkF m pc' Ls' st')) target → Steps p.tables e below (T.setTop (mkF m pc Ls st)) target) : Rch l Z n0 R y bytes mx rt D h k n pc' Ls' st' := by
  obtain ⟨p, e, s, m, args, below, meth, c, s₁, g0⟩ := D
  obtain ⟨hB, T, locs, X, eT, N, hs⟩ := r
  exact ⟨hB, T, locs, X, eT, N, hs.trans (f X hB.1 hB.2.1 hB.2.2.2.2.1 hB.2.2.2.1 eT _ (Steps.refl _))⟩
theorem Rch.mv (r : Rch l Z n0 R y bytes mx rt D h k n pc Ls st) {k' n' pc' : Nat} {Ls' : Array Slot} {st' : Heap → List Value} {P : Heap → Prop}
    (f : ∀ {p : Program} {e : Env} {s : State} {m : MethodId} {args : Array Value} {below : List Frame} {meth : Method} {c : Code} {T : State} {locs : List Loc}, Stand p l e R s m args below meth c T locs k n → p.tables.exec = Jvm.exec → c.code = bytes → c.maxLocals = mx → meth.name = y.name → Z.Warmed39 s.vm → s.vm.findClass y.cls = some m.cls → T.heap = h → Fr n0 locs →
      ∃ (T' : State) (h' : Heap) (locs' : List Loc), Stand p l e R s m args below meth c T' locs' k' n' ∧ T'.heap = h' ∧ P h' ∧ Fr n0 locs' ∧ Steps p.tables e below (T.setTop (mkF m pc Ls st)) (T'.setTop (mkF m pc' Ls' (st' h')))) : ∃ h', P h' ∧ Rch l Z n0 R y bytes mx rt D h' k' n' pc' Ls' (st' h') := by
  obtain ⟨p, e, s, m, args, below, meth, c, s₁, g0⟩ := D
  obtain ⟨hB, T, locs, X, eT, N, hs⟩ := r
  obtain ⟨T', h', locs', X', eT', hP, N', hs'⟩ := f X hB.1 hB.2.1 hB.2.2.1 hB.2.2.2.2.2.2.2 hB.2.2.2.2.1 hB.2.2.2.1 eT N
  exact ⟨h', hP, hB, T', locs', X', eT', N', hs.trans hs'⟩
theorem Rch.more (r : Rch l Z n0 R y bytes mx rt D h k n pc Ls st) {k' n' : Nat} (hk : k ≤ k') (hn : n ≤ n') : Rch l Z n0 R y bytes mx rt D h k' n' pc Ls st := by
  obtain ⟨p, e, s, m, args, below, meth, c, s₁, g0⟩ := D
  obtain ⟨hB, T, locs, X, eT, N, hs⟩ := r
  exact ⟨hB, T, locs, X.more hk hn, eT, N, hs⟩
theorem aload {i : Nat} {v : Value} (r : Rch l Z n0 R y bytes mx rt D h k n pc Ls st) (hd : decode bytes pc = .ok (.aload i, 2)) (hl : Ls[i]? = some (.val v)) (hv : v.isRef = true) : Rch l Z n0 R y bytes mx rt D h k n (pc + 2) Ls (v :: st) := r.go fun X hx b _ _ _ t q => XS.aload X.here hx rfl (hb b hd) hl hv q
theorem aloadN {i : Fin 4} {v : Value} (r : Rch l Z n0 R y bytes mx rt D h k n pc Ls st) (hd : decode bytes pc = .ok (.aload_n i, 1)) (hl : Ls[i.val]? = some (.val v)) (hv : v.isRef = true) : Rch l Z n0 R y bytes mx rt D h k n (pc + 1) Ls (v :: st) := r.go fun X hx b _ _ _ t q => XS.aloadN X.here hx rfl (hb b hd) hl hv q
theorem iload {i : Nat} {v : Int32} (r : Rch l Z n0 R y bytes mx rt D h k n pc Ls st) (hd : decode bytes pc = .ok (.iload i, 2)) (hl : Ls[i]? = some (.val (.int v))) : Rch l Z n0 R y bytes mx rt D h k n (pc + 2) Ls (.int v :: st) := r.go fun X hx b _ _ _ t q => XS.iload X.here hx rfl (hb b hd) hl q
theorem iloadN {i : Fin 4} {v : Int32} (r : Rch l Z n0 R y bytes mx rt D h k n pc Ls st) (hd : decode bytes pc = .ok (.iload_n i, 1)) (hl : Ls[i.val]? = some (.val (.int v))) : Rch l Z n0 R y bytes mx rt D h k n (pc + 1) Ls (.int v :: st) := r.go fun X hx b _ _ _ t q => XS.iloadN X.here hx rfl (hb b hd) hl q
theorem lload {i : Nat} {v : Int64} (r : Rch l Z n0 R y bytes mx rt D h k n pc Ls st) (hd : decode bytes pc = .ok (.lload i, 2)) (hl : Ls[i]? = some (.val (.long v))) : Rch l Z n0 R y bytes mx rt D h k n (pc + 2) Ls (.long v :: st) := r.go fun X hx b _ _ _ t q => XS.lload X.here hx rfl (hb b hd) hl q
theorem lloadN {i : Fin 4} {v : Int64} (r : Rch l Z n0 R y bytes mx rt D h k n pc Ls st) (hd : decode bytes pc = .ok (.lload_n i, 1)) (hl : Ls[i.val]? = some (.val (.long v))) : Rch l Z n0 R y bytes mx rt D h k n (pc + 1) Ls (.long v :: st) := r.go fun X hx b _ _ _ t q => XS.lloadN X.here hx rfl (hb b hd) hl q
theorem istore {x : Int32} {i : Nat} {L' : Array Slot} (r : Rch l Z n0 R y bytes mx rt D h k n pc Ls (.int x :: st)) (hd : decode bytes pc = .ok (.istore i, 2)) (hl : storeLocals Ls i (.int x) = some L') : Rch l Z n0 R y bytes mx rt D h k n (pc + 2) L' st := r.go fun X hx b _ _ _ t q => XS.istore X.here hx rfl (hb b hd) rfl hl q
theorem istoreN {x : Int32} {i : Fin 4} {L' : Array Slot} (r : Rch l Z n0 R y bytes mx rt D h k n pc Ls (.int x :: st)) (hd : decode bytes pc = .ok (.istore_n i, 1)) (hl : storeLocals Ls i.val (.int x) = some L') : Rch l Z n0 R y bytes mx rt D h k n (pc + 1) L' st := r.go fun X hx b _ _ _ t q => XS.istoreN X.here hx rfl (hb b hd) rfl hl q
theorem lstore {x : Int64} {i : Nat} {L' : Array Slot} (r : Rch l Z n0 R y bytes mx rt D h k n pc Ls (.long x :: st)) (hd : decode bytes pc = .ok (.lstore i, 2)) (hl : storeLocals Ls i (.long x) = some L') : Rch l Z n0 R y bytes mx rt D h k n (pc + 2) L' st := r.go fun X hx b _ _ _ t q => XS.lstore X.here hx rfl (hb b hd) rfl hl q
theorem lstoreN {x : Int64} {i : Fin 4} {L' : Array Slot} (r : Rch l Z n0 R y bytes mx rt D h k n pc Ls (.long x :: st)) (hd : decode bytes pc = .ok (.lstore_n i, 1)) (hl : storeLocals Ls i.val (.long x) = some L') : Rch l Z n0 R y bytes mx rt D h k n (pc + 1) L' st := r.go fun X hx b _ _ _ t q => XS.lstoreN X.here hx rfl (hb b hd) rfl hl q
theorem astore {x : Value} {i : Nat} {L' : Array Slot} (r : Rch l Z n0 R y bytes mx rt D h k n pc Ls (x :: st)) (hd : decode bytes pc = .ok (.astore i, 2)) (hv : x.isRef = true) (hl : storeLocals Ls i x = some L') : Rch l Z n0 R y bytes mx rt D h k n (pc + 2) L' st := r.go fun X hx b _ _ _ t q => XS.astore X.here hx rfl (hb b hd) rfl hv hl q
theorem astoreN {x : Value} {i : Fin 4} {L' : Array Slot} (r : Rch l Z n0 R y bytes mx rt D h k n pc Ls (x :: st)) (hd : decode bytes pc = .ok (.astore_n i, 1)) (hv : x.isRef = true) (hl : storeLocals Ls i.val x = some L') : Rch l Z n0 R y bytes mx rt D h k n (pc + 1) L' st := r.go fun X hx b _ _ _ t q => XS.astoreN X.here hx rfl (hb b hd) rfl hv hl q
theorem iconst {i : Int} {v : Int32} (r : Rch l Z n0 R y bytes mx rt D h k n pc Ls st) (hd : decode bytes pc = .ok (.iconst i, 1)) (hv : Int32.ofInt i = v) : Rch l Z n0 R y bytes mx rt D h k n (pc + 1) Ls (.int v :: st) := by subst hv; exact r.go fun X hx b _ _ _ t q => XS.iconst X.here hx rfl (hb b hd) q
theorem bipush {i : Int} {v : Int32} (r : Rch l Z n0 R y bytes mx rt D h k n pc Ls st) (hd : decode bytes pc = .ok (.bipush i, 2)) (hv : (Int8.ofInt i).toInt32 = v) : Rch l Z n0 R y bytes mx rt D h k n (pc + 2) Ls (.int v :: st) := by subst hv; exact r.go fun X hx b _ _ _ t q => XS.bipush X.here hx rfl (hb b hd) q
theorem sipush {i : Int} {v : Int32} (r : Rch l Z n0 R y bytes mx rt D h k n pc Ls st) (hd : decode bytes pc = .ok (.sipush i, 3)) (hv : (Int16.ofInt i).toInt32 = v) : Rch l Z n0 R y bytes mx rt D h k n (pc + 3) Ls (.int v :: st) := by subst hv; exact r.go fun X hx b _ _ _ t q => XS.sipush X.here hx rfl (hb b hd) q
theorem lconst {i : Fin 2} {v : Int64} (r : Rch l Z n0 R y bytes mx rt D h k n pc Ls st) (hd : decode bytes pc = .ok (.lconst i, 1)) (hv : Int64.ofNat i = v) : Rch l Z n0 R y bytes mx rt D h k n (pc + 1) Ls (.long v :: st) := by subst hv; exact r.go fun X hx b _ _ _ t q => XT.lconst X.here hx rfl (hb b hd) q
theorem aconstNull (r : Rch l Z n0 R y bytes mx rt D h k n pc Ls st) (hd : decode bytes pc = .ok (.aconst_null, 1)) : Rch l Z n0 R y bytes mx rt D h k n (pc + 1) Ls (.null :: st) := r.go fun X hx b _ _ _ t q => XS.aconstNull X.here hx rfl (hb b hd) q
theorem dup {x : Value} (r : Rch l Z n0 R y bytes mx rt D h k n pc Ls (x :: st)) (hd : decode bytes pc = .ok (.dup, 1)) (hc : x.category = 1) : Rch l Z n0 R y bytes mx rt D h k n (pc + 1) Ls (x :: x :: st) := r.go fun X hx b _ _ _ t q => XS.dup X.here hx rfl (hb b hd) rfl hc q
theorem pop {x : Value} (r : Rch l Z n0 R y bytes mx rt D h k n pc Ls (x :: st)) (hd : decode bytes pc = .ok (.pop, 1)) (hc : x.category = 1) : Rch l Z n0 R y bytes mx rt D h k n (pc + 1) Ls st := r.go fun X hx b _ _ _ t q => XS.pop X.here hx rfl (hb b hd) rfl hc q
theorem dupX1 {x z : Value} (r : Rch l Z n0 R y bytes mx rt D h k n pc Ls (x :: z :: st)) (hd : decode bytes pc = .ok (.dup_x1, 1)) (hc : x.category = 1) (hc2 : z.category = 1) : Rch l Z n0 R y bytes mx rt D h k n (pc + 1) Ls (x :: z :: x :: st) := r.go fun X hx b _ _ _ t q => XS.dupX1 X.here hx rfl (hb b hd) rfl hc hc2 q
theorem dup2 {x z : Value} (r : Rch l Z n0 R y bytes mx rt D h k n pc Ls (x :: z :: st)) (hd : decode bytes pc = .ok (.dup2, 1)) (hc : x.category = 1) (hc2 : z.category = 1) : Rch l Z n0 R y bytes mx rt D h k n (pc + 1) Ls (x :: z :: x :: z :: st) := r.go fun X hx b _ _ _ t q => XT.dup2 X.here hx rfl (hb b hd) rfl hc hc2 q
theorem dup2L {x : Int64} (r : Rch l Z n0 R y bytes mx rt D h k n pc Ls (.long x :: st)) (hd : decode bytes pc = .ok (.dup2, 1)) : Rch l Z n0 R y bytes mx rt D h k n (pc + 1) Ls (.long x :: .long x :: st) := r.go fun X hx b _ _ _ t q => XT.dup2L X.here hx rfl (hb b hd) rfl q
theorem iadd {x z : Int32} (r : Rch l Z n0 R y bytes mx rt D h k n pc Ls (.int z :: .int x :: st)) (hd : decode bytes pc = .ok (.iadd, 1)) : Rch l Z n0 R y bytes mx rt D h k n (pc + 1) Ls (.int (x + z) :: st) := r.go fun X hx b _ _ _ t q => XS.iadd X.here hx rfl (hb b hd) rfl q
theorem isub {x z : Int32} (r : Rch l Z n0 R y bytes mx rt D h k n pc Ls (.int z :: .int x :: st)) (hd : decode bytes pc = .ok (.isub, 1)) : Rch l Z n0 R y bytes mx rt D h k n (pc + 1) Ls (.int (x - z) :: st) := r.go fun X hx b _ _ _ t q => XS.isub X.here hx rfl (hb b hd) rfl q
theorem imul {x z : Int32} (r : Rch l Z n0 R y bytes mx rt D h k n pc Ls (.int z :: .int x :: st)) (hd : decode bytes pc = .ok (.imul, 1)) : Rch l Z n0 R y bytes mx rt D h k n (pc + 1) Ls (.int (x * z) :: st) := r.go fun X hx b _ _ _ t q => XS.imul X.here hx rfl (hb b hd) rfl q
theorem iand {x z : Int32} (r : Rch l Z n0 R y bytes mx rt D h k n pc Ls (.int z :: .int x :: st)) (hd : decode bytes pc = .ok (.iand, 1)) : Rch l Z n0 R y bytes mx rt D h k n (pc + 1) Ls (.int (x &&& z) :: st) := r.go fun X hx b _ _ _ t q => XS.iand X.here hx rfl (hb b hd) rfl q
theorem ior {x z : Int32} (r : Rch l Z n0 R y bytes mx rt D h k n pc Ls (.int z :: .int x :: st)) (hd : decode bytes pc = .ok (.ior, 1)) : Rch l Z n0 R y bytes mx rt D h k n (pc + 1) Ls (.int (x ||| z) :: st) := r.go fun X hx b _ _ _ t q => XS.ior X.here hx rfl (hb b hd) rfl q
theorem ixor {x z : Int32} (r : Rch l Z n0 R y bytes mx rt D h k n pc Ls (.int z :: .int x :: st)) (hd : decode bytes pc = .ok (.ixor, 1)) : Rch l Z n0 R y bytes mx rt D h k n (pc + 1) Ls (.int (x ^^^ z) :: st) := r.go fun X hx b _ _ _ t q => XS.ixor X.here hx rfl (hb b hd) rfl q
theorem ishl {x z : Int32} (r : Rch l Z n0 R y bytes mx rt D h k n pc Ls (.int z :: .int x :: st)) (hd : decode bytes pc = .ok (.ishl, 1)) : Rch l Z n0 R y bytes mx rt D h k n (pc + 1) Ls (.int (ishlW x z) :: st) := r.go fun X hx b _ _ _ t q => XS.ishl X.here hx rfl (hb b hd) rfl q
theorem ishr {x z : Int32} (r : Rch l Z n0 R y bytes mx rt D h k n pc Ls (.int z :: .int x :: st)) (hd : decode bytes pc = .ok (.ishr, 1)) : Rch l Z n0 R y bytes mx rt D h k n (pc + 1) Ls (.int (ishrW x z) :: st) := r.go fun X hx b _ _ _ t q => XS.ishr X.here hx rfl (hb b hd) rfl q
theorem iushr {x z : Int32} (r : Rch l Z n0 R y bytes mx rt D h k n pc Ls (.int z :: .int x :: st)) (hd : decode bytes pc = .ok (.iushr, 1)) : Rch l Z n0 R y bytes mx rt D h k n (pc + 1) Ls (.int (iushrW x z) :: st) := r.go fun X hx b _ _ _ t q => XS.iushr X.here hx rfl (hb b hd) rfl q
theorem idiv {x z : Int32} (r : Rch l Z n0 R y bytes mx rt D h k n pc Ls (.int z :: .int x :: st)) (hd : decode bytes pc = .ok (.idiv, 1)) (hz : z ≠ 0) : Rch l Z n0 R y bytes mx rt D h k n (pc + 1) Ls (.int (x / z) :: st) := r.go fun X hx b _ _ _ t q => XS.idiv X.here hx rfl (hb b hd) rfl hz q
theorem irem {x z : Int32} (r : Rch l Z n0 R y bytes mx rt D h k n pc Ls (.int z :: .int x :: st)) (hd : decode bytes pc = .ok (.irem, 1)) (hz : z ≠ 0) : Rch l Z n0 R y bytes mx rt D h k n (pc + 1) Ls (.int (x % z) :: st) := r.go fun X hx b _ _ _ t q => iremM X hx rfl (hb b hd) rfl hz q
theorem ineg {x : Int32} (r : Rch l Z n0 R y bytes mx rt D h k n pc Ls (.int x :: st)) (hd : decode bytes pc = .ok (.ineg, 1)) : Rch l Z n0 R y bytes mx rt D h k n (pc + 1) Ls (.int (-x) :: st) := r.go fun X hx b _ _ _ t q => XS.ineg X.here hx rfl (hb b hd) rfl q
theorem ladd {x z : Int64} (r : Rch l Z n0 R y bytes mx rt D h k n pc Ls (.long z :: .long x :: st)) (hd : decode bytes pc = .ok (.ladd, 1)) : Rch l Z n0 R y bytes mx rt D h k n (pc + 1) Ls (.long (x + z) :: st) := r.go fun X hx b _ _ _ t q => XS.ladd X.here hx rfl (hb b hd) rfl q
theorem lsub {x z : Int64} (r : Rch l Z n0 R y bytes mx rt D h k n pc Ls (.long z :: .long x :: st)) (hd : decode bytes pc = .ok (.lsub, 1)) : Rch l Z n0 R y bytes mx rt D h k n (pc + 1) Ls (.long (x - z) :: st) := r.go fun X hx b _ _ _ t q => XS.lsub X.here hx rfl (hb b hd) rfl q
theorem lmul {x z : Int64} (r : Rch l Z n0 R y bytes mx rt D h k n pc Ls (.long z :: .long x :: st)) (hd : decode bytes pc = .ok (.lmul, 1)) : Rch l Z n0 R y bytes mx rt D h k n (pc + 1) Ls (.long (x * z) :: st) := r.go fun X hx b _ _ _ t q => XS.lmul X.here hx rfl (hb b hd) rfl q
theorem land {x z : Int64} (r : Rch l Z n0 R y bytes mx rt D h k n pc Ls (.long z :: .long x :: st)) (hd : decode bytes pc = .ok (.land, 1)) : Rch l Z n0 R y bytes mx rt D h k n (pc + 1) Ls (.long (x &&& z) :: st) := r.go fun X hx b _ _ _ t q => XS.land X.here hx rfl (hb b hd) rfl q
theorem lor {x z : Int64} (r : Rch l Z n0 R y bytes mx rt D h k n pc Ls (.long z :: .long x :: st)) (hd : decode bytes pc = .ok (.lor, 1)) : Rch l Z n0 R y bytes mx rt D h k n (pc + 1) Ls (.long (x ||| z) :: st) := r.go fun X hx b _ _ _ t q => XS.lor X.here hx rfl (hb b hd) rfl q
theorem lxor {x z : Int64} (r : Rch l Z n0 R y bytes mx rt D h k n pc Ls (.long z :: .long x :: st)) (hd : decode bytes pc = .ok (.lxor, 1)) : Rch l Z n0 R y bytes mx rt D h k n (pc + 1) Ls (.long (x ^^^ z) :: st) := r.go fun X hx b _ _ _ t q => XS.lxor X.here hx rfl (hb b hd) rfl q
theorem ldiv {x z : Int64} (r : Rch l Z n0 R y bytes mx rt D h k n pc Ls (.long z :: .long x :: st)) (hd : decode bytes pc = .ok (.ldiv, 1)) (hz : z ≠ 0) : Rch l Z n0 R y bytes mx rt D h k n (pc + 1) Ls (.long (x / z) :: st) := r.go fun X hx b _ _ _ t q => XS.ldiv X.here hx rfl (hb b hd) rfl hz q
theorem lrem {x z : Int64} (r : Rch l Z n0 R y bytes mx rt D h k n pc Ls (.long z :: .long x :: st)) (hd : decode bytes pc = .ok (.lrem, 1)) (hz : z ≠ 0) : Rch l Z n0 R y bytes mx rt D h k n (pc + 1) Ls (.long (lremW x z) :: st) := r.go fun X hx b _ _ _ t q => XS.lrem X.here hx rfl (hb b hd) rfl hz q
theorem lcmp {x z : Int64} (r : Rch l Z n0 R y bytes mx rt D h k n pc Ls (.long z :: .long x :: st)) (hd : decode bytes pc = .ok (.lcmp, 1)) : Rch l Z n0 R y bytes mx rt D h k n (pc + 1) Ls (.int (XT.cmpL x z) :: st) := r.go fun X hx b _ _ _ t q => XT.lcmp X.here hx rfl (hb b hd) rfl q
theorem lneg {x : Int64} (r : Rch l Z n0 R y bytes mx rt D h k n pc Ls (.long x :: st)) (hd : decode bytes pc = .ok (.lneg, 1)) : Rch l Z n0 R y bytes mx rt D h k n (pc + 1) Ls (.long (-x) :: st) := r.go fun X hx b _ _ _ t q => XS.lneg X.here hx rfl (hb b hd) rfl q
theorem lshl {x : Int64} {z : Int32} (r : Rch l Z n0 R y bytes mx rt D h k n pc Ls (.int z :: .long x :: st)) (hd : decode bytes pc = .ok (.lshl, 1)) : Rch l Z n0 R y bytes mx rt D h k n (pc + 1) Ls (.long (lshlW x z) :: st) := r.go fun X hx b _ _ _ t q => XS.lshl X.here hx rfl (hb b hd) rfl q
theorem lshr {x : Int64} {z : Int32} (r : Rch l Z n0 R y bytes mx rt D h k n pc Ls (.int z :: .long x :: st)) (hd : decode bytes pc = .ok (.lshr, 1)) : Rch l Z n0 R y bytes mx rt D h k n (pc + 1) Ls (.long (lshrW x z) :: st) := r.go fun X hx b _ _ _ t q => XS.lshr X.here hx rfl (hb b hd) rfl q
theorem lushr {x : Int64} {z : Int32} (r : Rch l Z n0 R y bytes mx rt D h k n pc Ls (.int z :: .long x :: st)) (hd : decode bytes pc = .ok (.lushr, 1)) : Rch l Z n0 R y bytes mx rt D h k n (pc + 1) Ls (.long (lushrW x z) :: st) := r.go fun X hx b _ _ _ t q => XS.lushr X.here hx rfl (hb b hd) rfl q
theorem i2l {x : Int32} (r : Rch l Z n0 R y bytes mx rt D h k n pc Ls (.int x :: st)) (hd : decode bytes pc = .ok (.i2l, 1)) : Rch l Z n0 R y bytes mx rt D h k n (pc + 1) Ls (.long x.toInt64 :: st) := r.go fun X hx b _ _ _ t q => XS.i2l X.here hx rfl (hb b hd) rfl q
theorem l2i {x : Int64} (r : Rch l Z n0 R y bytes mx rt D h k n pc Ls (.long x :: st)) (hd : decode bytes pc = .ok (.l2i, 1)) : Rch l Z n0 R y bytes mx rt D h k n (pc + 1) Ls (.int x.toInt32 :: st) := r.go fun X hx b _ _ _ t q => XS.l2i X.here hx rfl (hb b hd) rfl q
theorem i2b {x : Int32} (r : Rch l Z n0 R y bytes mx rt D h k n pc Ls (.int x :: st)) (hd : decode bytes pc = .ok (.i2b, 1)) : Rch l Z n0 R y bytes mx rt D h k n (pc + 1) Ls (.int (i2bW x) :: st) := r.go fun X hx b _ _ _ t q => XS.i2b X.here hx rfl (hb b hd) rfl q
theorem i2c {x : Int32} (r : Rch l Z n0 R y bytes mx rt D h k n pc Ls (.int x :: st)) (hd : decode bytes pc = .ok (.i2c, 1)) : Rch l Z n0 R y bytes mx rt D h k n (pc + 1) Ls (.int (i2cW x) :: st) := r.go fun X hx b _ _ _ t q => XS.i2c X.here hx rfl (hb b hd) rfl q
theorem i2s {x : Int32} (r : Rch l Z n0 R y bytes mx rt D h k n pc Ls (.int x :: st)) (hd : decode bytes pc = .ok (.i2s, 1)) : Rch l Z n0 R y bytes mx rt D h k n (pc + 1) Ls (.int (i2sW x) :: st) := r.go fun X hx b _ _ _ t q => XS.i2s X.here hx rfl (hb b hd) rfl q
theorem iinc {i : Nat} {cst : Int} {x v : Int32} {L' : Array Slot} (r : Rch l Z n0 R y bytes mx rt D h k n pc Ls st) (hd : decode bytes pc = .ok (.iinc i cst, 3)) (hl : Ls[i]? = some (.val (.int x))) (hv : Int32.ofInt cst = v) (hl' : storeLocals Ls i (.int (x + v)) = some L') : Rch l Z n0 R y bytes mx rt D h k n (pc + 3) L' st := by subst hv; exact r.go fun X hx b _ _ _ t q => XS.iinc X.here hx rfl (hb b hd) hl hl' q
theorem istoreS {x : Int32} {i : Nat} {o : Slot} (r : Rch l Z n0 R y bytes mx rt D h k n pc Ls (.int x :: st)) (hd : decode bytes pc = .ok (.istore i, 2)) (hold : Ls[i]? = some o) (ho : o = .unset ∨ ∃ w, o = .val w ∧ w.category = 1) : Rch l Z n0 R y bytes mx rt D h k n (pc + 2) (Ls.setIfInBounds i (.val (.int x))) st := r.go fun X hx b _ _ _ t q => XS.istoreS X.here hx rfl (hb b hd) rfl hold ho q
theorem istoreNS {x : Int32} {i : Fin 4} {o : Slot} (r : Rch l Z n0 R y bytes mx rt D h k n pc Ls (.int x :: st)) (hd : decode bytes pc = .ok (.istore_n i, 1)) (hold : Ls[i.val]? = some o) (ho : o = .unset ∨ ∃ w, o = .val w ∧ w.category = 1) : Rch l Z n0 R y bytes mx rt D h k n (pc + 1) (Ls.setIfInBounds i.val (.val (.int x))) st := r.go fun X hx b _ _ _ t q => XS.istoreNS X.here hx rfl (hb b hd) rfl hold ho q
theorem astoreS {x : Value} {i : Nat} {o : Slot} (r : Rch l Z n0 R y bytes mx rt D h k n pc Ls (x :: st)) (hd : decode bytes pc = .ok (.astore i, 2)) (hv : x.isRef = true) (hold : Ls[i]? = some o) (ho : o = .unset ∨ ∃ w, o = .val w ∧ w.category = 1) : Rch l Z n0 R y bytes mx rt D h k n (pc + 2) (Ls.setIfInBounds i (.val x)) st := r.go fun X hx b _ _ _ t q => XS.astoreS X.here hx rfl (hb b hd) rfl hv (XT.cat1 hv) hold ho q
theorem astoreNS {x : Value} {i : Fin 4} {o : Slot} (r : Rch l Z n0 R y bytes mx rt D h k n pc Ls (x :: st)) (hd : decode bytes pc = .ok (.astore_n i, 1)) (hv : x.isRef = true) (hold : Ls[i.val]? = some o) (ho : o = .unset ∨ ∃ w, o = .val w ∧ w.category = 1) : Rch l Z n0 R y bytes mx rt D h k n (pc + 1) (Ls.setIfInBounds i.val (.val x)) st := r.go fun X hx b _ _ _ t q => XT.astoreNS X.here hx rfl (hb b hd) rfl hv (XT.cat1 hv) hold ho q
theorem dupX2step {tb : Tables} [Ours tb] {e : Env} {below : List Frame} {T target : State} {m : MethodId} {c : Code} {g : JFrame} (h : At T m c below) (hx : tb.exec = Jvm.exec) (hg : g.method = m) {x u z : Value} {rest : List Value} (hd : decode c.code g.pc = .ok (.dup_x2, 1)) (hs : g.stack = x :: u :: z :: rest) (hc : x.category = 1) (hc2 : u.category = 1) (hc3 : z.category = 1)
    (hr : Steps tb e below (T.setTop { g with pc := g.pc + 1, stack := x :: u :: z :: x :: rest }) target) : Steps tb e below (T.setTop g) target := by
  subst hg
  jvm_step h [h.top, hx, hd, hs, hc, hc2, hc3]
  exact hr
theorem dupX2 {x u z : Value} (r : Rch l Z n0 R y bytes mx rt D h k n pc Ls (x :: u :: z :: st)) (hd : decode bytes pc = .ok (.dup_x2, 1)) (hc : x.category = 1) (hc2 : u.category = 1) (hc3 : z.category = 1) : Rch l Z n0 R y bytes mx rt D h k n (pc + 1) Ls (x :: u :: z :: x :: st) := r.go fun X hx b _ _ _ t q => dupX2step X.here hx rfl (hb b hd) rfl hc hc2 hc3 q
/-! branches -/
theorem goto {o : Int} {pc' : Nat} (r : Rch l Z n0 R y bytes mx rt D h k n pc Ls st) (hd : decode bytes pc = .ok (.goto o, 3)) (ho : 0 ≤ (pc : Int) + o) (hp : ((pc : Int) + o).toNat = pc') : Rch l Z n0 R y bytes mx rt D h k n pc' Ls st := r.go fun X hx b _ _ _ t q => XS.goto X.here hx rfl (pc0 := pc) rfl (hb b hd) ho hp q
theorem ifYes {cd : ClassFile.Cond} {x : Int32} {o : Int} {pc' : Nat} (r : Rch l Z n0 R y bytes mx rt D h k n pc Ls (.int x :: st)) (hd : decode bytes pc = .ok (.ifCond cd o, 3)) (hc : ifCond.holds cd x = true) (ho : 0 ≤ (pc : Int) + o) (hp : ((pc : Int) + o).toNat = pc') : Rch l Z n0 R y bytes mx rt D h k n pc' Ls st := r.go fun X hx b _ _ _ t q => XS.ifYes X.here hx rfl (pc0 := pc) rfl (hb b hd) rfl hc ho hp q
theorem ifNo {cd : ClassFile.Cond} {x : Int32} {o : Int} (r : Rch l Z n0 R y bytes mx rt D h k n pc Ls (.int x :: st)) (hd : decode bytes pc = .ok (.ifCond cd o, 3)) (hc : ifCond.holds cd x = false) : Rch l Z n0 R y bytes mx rt D h k n (pc + 3) Ls st := r.go fun X hx b _ _ _ t q => XS.ifNo X.here hx rfl (hb b hd) rfl hc q
theorem icmpYes {cd : ClassFile.Cond} {x z : Int32} {o : Int} {pc' : Nat} (r : Rch l Z n0 R y bytes mx rt D h k n pc Ls (.int z :: .int x :: st)) (hd : decode bytes pc = .ok (.if_icmp cd o, 3)) (hc : if_icmp.holds cd x z = true) (ho : 0 ≤ (pc : Int) + o) (hp : ((pc : Int) + o).toNat = pc') : Rch l Z n0 R y bytes mx rt D h k n pc' Ls st := r.go fun X hx b _ _ _ t q => XS.icmpYes X.here hx rfl (pc0 := pc) rfl (hb b hd) rfl hc ho hp q
theorem icmpNo {cd : ClassFile.Cond} {x z : Int32} {o : Int} (r : Rch l Z n0 R y bytes mx rt D h k n pc Ls (.int z :: .int x :: st)) (hd : decode bytes pc = .ok (.if_icmp cd o, 3)) (hc : if_icmp.holds cd x z = false) : Rch l Z n0 R y bytes mx rt D h k n (pc + 3) Ls st := r.go fun X hx b _ _ _ t q => XS.icmpNo X.here hx rfl (hb b hd) rfl hc q
theorem ifnullYes {o : Int} {pc' : Nat} (r : Rch l Z n0 R y bytes mx rt D h k n pc Ls (.null :: st)) (hd : decode bytes pc = .ok (.ifnull o, 3)) (ho : 0 ≤ (pc : Int) + o) (hp : ((pc : Int) + o).toNat = pc') : Rch l Z n0 R y bytes mx rt D h k n pc' Ls st := r.go fun X hx b _ _ _ t q => XS.ifnullYes X.here hx rfl (pc0 := pc) rfl (hb b hd) rfl ho hp q
theorem ifnullNo {o : Int} {a : Addr} (r : Rch l Z n0 R y bytes mx rt D h k n pc Ls (.ref a :: st)) (hd : decode bytes pc = .ok (.ifnull o, 3)) : Rch l Z n0 R y bytes mx rt D h k n (pc + 3) Ls st := r.go fun X hx b _ _ _ t q => XS.ifnullNo X.here hx rfl (hb b hd) rfl q
theorem ifnonnullYes {o : Int} {a : Addr} {pc' : Nat} (r : Rch l Z n0 R y bytes mx rt D h k n pc Ls (.ref a :: st)) (hd : decode bytes pc = .ok (.ifnonnull o, 3)) (ho : 0 ≤ (pc : Int) + o) (hp : ((pc : Int) + o).toNat = pc') : Rch l Z n0 R y bytes mx rt D h k n pc' Ls st := r.go fun X hx b _ _ _ t q => XS.ifnonnullYes X.here hx rfl (pc0 := pc) rfl (hb b hd) rfl ho hp q
theorem ifnonnullNo {o : Int} (r : Rch l Z n0 R y bytes mx rt D h k n pc Ls (.null :: st)) (hd : decode bytes pc = .ok (.ifnonnull o, 3)) : Rch l Z n0 R y bytes mx rt D h k n (pc + 3) Ls st := r.go fun X hx b _ _ _ t q => XS.ifnonnullNo X.here hx rfl (hb b hd) rfl q
theorem acmp {cd : ClassFile.ACond} {x z : Value} {o : Int} {pc' : Nat} {same : Bool} (r : Rch l Z n0 R y bytes mx rt D h k n pc Ls (z :: x :: st)) (hd : decode bytes pc = .ok (.if_acmp cd o, 3)) (h1 : x.isRef = true) (h2 : z.isRef = true) (hq : decide (x = z) = same) (ho : 0 ≤ (pc : Int) + o) (hp : pc' = if acV cd same = true then ((pc : Int) + o).toNat else pc + 3) : Rch l Z n0 R y bytes mx rt D h k n pc' Ls st := r.go fun X hx b _ _ _ t q => Jvm.RoadKit.acmp X hx rfl h1 h2 (pc0 := pc) rfl (hb b hd) rfl hq ho hp q
/-! constants, fields, new cells -/
theorem ldcI {index : Nat} {v : Int32} (r : Rch l Z n0 R y bytes mx rt D h k n pc Ls st) (hd : decode bytes pc = .ok (.ldc index, 2)) (w : (Jvm.Cond.constant y.cls index v).before a0 Z = true) : Rch l Z n0 R y bytes mx rt D h k n (pc + 2) Ls (.int v :: st) := r.go fun X hx b hZ ho _ t q => X.ldcInt hx ho (mvT hZ w) (g := mkF _ pc Ls st) rfl (hb b hd) t q
theorem ldcJ {index : Nat} {v : Int64} (r : Rch l Z n0 R y bytes mx rt D h k n pc Ls st) (hd : decode bytes pc = .ok (.ldc2_w index, 3)) (w : (Jvm.Cond.constantLong y.cls index v).before a0 Z = true) : Rch l Z n0 R y bytes mx rt D h k n (pc + 3) Ls (.long v :: st) := r.go fun X hx b hZ ho _ t q => X.ldc2Long hx ho (mvT hZ w) (g := mkF _ pc Ls st) rfl (hb b hd) t q
theorem ldcWI {index : Nat} {v : Int32} (r : Rch l Z n0 R y bytes mx rt D h k n pc Ls st) (hd : decode bytes pc = .ok (.ldc_w index, 3)) (w : (Jvm.Cond.constant y.cls index v).before a0 Z = true) : Rch l Z n0 R y bytes mx rt D h k n (pc + 3) Ls (.int v :: st) := r.go fun X hx b hZ ho _ t q => X.ldcwInt hx ho (mvT hZ w) (g := mkF _ pc Ls st) rfl (hb b hd) t q
theorem getfield {R0 O nm d host : String} {index : Nat} {a : Addr} {v : Value} (r : Rch l Z n0 R y bytes mx rt D h k n pc Ls (.ref a :: st)) (hd : decode bytes pc = .ok (.getfield index, 3)) (w : (Jvm.Cond.fieldLink y.cls index R0 nm d).before a0 Z = true ∨ (Jvm.Cond.fieldLinkNest y.cls index R0 nm d host).before a0 Z = true) (via : Via Z R0 O nm d) (F : Fld Z h a O nm d v) : Rch l Z n0 R y bytes mx rt D h k n (pc + 3) Ls (v :: st) := by
  obtain ⟨h', rfl, r'⟩ := r.mv (P := fun h' => h = h') (st' := fun _ => v :: st) (k' := k) (n' := n) (pc' := pc + 3) (Ls' := Ls) fun X hx b _ _ hZ ho eT N => by
    obtain ⟨T', X', e', s'⟩ := getF X hx hZ ho w via eT F (g := mkF _ pc Ls (.ref a :: st)) rfl rfl (hb b hd)
    exact ⟨T', h, _, X', e', rfl, N, s' _ (Steps.refl _)⟩
  exact r'
theorem getstatic {R0 O nm d : String} {index : Nat} {v : Value} (r : Rch l Z n0 R y bytes mx rt D h k n pc Ls st) (hd : decode bytes pc = .ok (.getstatic index, 3)) (w : (Jvm.Cond.fieldLink y.cls index R0 nm d).before a0 Z = true) (via : Via Z R0 O nm d) (F : Sta Z h O nm d v) : Rch l Z n0 R y bytes mx rt D h k n (pc + 3) Ls (v :: st) := by
  obtain ⟨h', rfl, r'⟩ := r.mv (P := fun h' => h = h') (st' := fun _ => v :: st) (k' := k) (n' := n) (pc' := pc + 3) (Ls' := Ls) fun X hx b _ _ hZ ho eT N => by
    obtain ⟨T', X', e', s'⟩ := getS X hx hZ (host := "") ho w via eT F (g := mkF _ pc Ls st) rfl (hb b hd)
    exact ⟨T', h, _, X', e', rfl, N, s' _ (Steps.refl _)⟩
  exact r'
theorem putfield {R0 O nm d host C : String} {index kk : Nat} {ty : FieldType} {a : Addr} {v old : Value} (r : Rch l Z n0 R y bytes mx rt D h k n pc Ls (v :: .ref a :: st)) (hd : decode bytes pc = .ok (.putfield index, 3)) (w : (Jvm.Cond.fieldLink y.cls index R0 nm d).before a0 Z = true ∨ (Jvm.Cond.fieldLinkNest y.cls index R0 nm d host).before a0 Z = true) (via : Via Z R0 O nm d) (F : Fld Z h a O nm d old) (E : Exa Z h a C)
    (L : (Jvm.Cond.lays C O nm d).before a0 Z = true ∨ ((Jvm.Cond.laysFinal C O nm d).before a0 Z = true ∧ y.cls = O ∧ y.name = "<init>")) (wi : (Jvm.Cond.instantiable C kk).before a0 Z = true) (hty : parseFieldDescriptor d = some ty) (hn : narrow ty v = v) (hf : fits ty v = true) (hg : n0 ≤ a) :
    ∃ h', Wr h h' a (Jvm.RoadKit.slotOf Z O nm d) v ∧ Rch l Z n0 R y bytes mx rt D h' k n (pc + 3) Ls st :=
  r.mv (P := fun h' => Wr h h' a (Jvm.RoadKit.slotOf Z O nm d) v) (st' := fun _ => st) fun X hx b _ hnm hZ ho eT N => by
    obtain ⟨T', h', X', e', W, s'⟩ := putF X hx hZ ho w via eT F E (L.imp id fun q => ⟨q.1, q.2.1, hnm.trans q.2.2⟩) wi hty hn hf (g := mkF _ pc Ls (v :: .ref a :: st)) rfl rfl (hb b hd)
    exact ⟨T', h', _, X', e', W, Fr.snoc X' N hg, s' _ (Steps.refl _)⟩
theorem newObj {C : String} {index nn : Nat} (r : Rch l Z n0 R y bytes mx rt D h k n pc Ls st) (hd : decode bytes pc = .ok (.new index, 3)) (w : (Jvm.Cond.classLink y.cls index C).before a0 Z = true) (wi : (Jvm.Cond.instantiable C nn).before a0 Z = true) (wz : (Jvm.Cond.initialized C).before a0 Z = true) (hc : k + 1 ≤ R.cells) (hl : n + nn ≤ R.slots) :
    ∃ h', (Ext h h' ∧ Exa Z h' h.size C ∧ ∀ {O nm d : String} {ty : FieldType}, Laid Z a0 C O nm d → parseFieldDescriptor d = some ty → Fld Z h' h.size O nm d (defaultValue ty)) ∧ Rch l Z n0 R y bytes mx rt D h' (k + 1) (n + nn) (pc + 3) Ls (.ref h.size :: st) :=
  r.mv (P := fun h' => Ext h h' ∧ Exa Z h' h.size C ∧ ∀ {O nm d : String} {ty : FieldType}, Laid Z a0 C O nm d → parseFieldDescriptor d = some ty → Fld Z h' h.size O nm d (defaultValue ty)) (st' := fun _ => .ref h.size :: st) fun X hx b _ _ hZ ho eT N => by
    obtain ⟨T', h', X', e', E', A', D', -, s'⟩ := newO X hx hZ ho w wi wz eT (g := mkF _ pc Ls st) rfl (hb b hd) hc hl
    exact ⟨T', h', _, X', e', ⟨E', A', D'⟩, N, s' _ (Steps.refl _)⟩
theorem initObj {index : Nat} {a : Addr} {W : Nat} (r : Rch l Z n0 R y bytes mx rt D h k n pc Ls (.ref a :: st)) (hd : decode bytes pc = .ok (.invokespecial index, 3)) (w1 : (Jvm.Cond.methodLink y.cls index Lib.objectInit).before a0 Z = true) (w2 : (Jvm.Cond.instanceMethod Lib.objectInit).before a0 Z = true) (w3 : (Jvm.Cond.code Lib.objectInit ⟨#[0xb1]⟩ 1 none).before a0 Z = true) (hsz : Ls.size = mx) (hf : 1 ≤ R.frames) (hW : (st.map fun v => v.category).sum ≤ W) (hl : W + 12 ≤ R.locals) : Rch l Z n0 R y bytes mx rt D h k n (pc + 3) Ls st := by
  obtain ⟨h', rfl, r'⟩ := r.mv (P := fun h' => h = h') (st' := fun _ => st) (k' := k) (n' := n) (pc' := pc + 3) (Ls' := Ls) fun X hx b hml _ hZ ho eT N => by
    obtain ⟨T', X', e', s'⟩ := initO X hx hZ ho w1 w2 w3 eT (g := mkF _ pc Ls (.ref a :: st)) rfl (hsz.trans hml.symm) rfl (hb b hd) hf (W := W) (by show 2 * 0 + _ ≤ _; omega) hl
    exact ⟨T', h, _, X', e', rfl, N, s' _ (Steps.refl _)⟩
  exact r'
theorem instYes {K : String} {index : Nat} {a : Addr} (r : Rch l Z n0 R y bytes mx rt D h k n pc Ls (.ref a :: st)) (hd : decode bytes pc = .ok (.instanceof index, 3)) (w : (Jvm.Cond.classLink y.cls index K).before a0 Z = true) (F : Ins Z h a K true) : Rch l Z n0 R y bytes mx rt D h k n (pc + 3) Ls (.int 1 :: st) := by
  obtain ⟨h', rfl, r'⟩ := r.mv (P := fun h' => h = h') (st' := fun _ => .int 1 :: st) (k' := k) (n' := n) (pc' := pc + 3) (Ls' := Ls) fun X hx b _ _ hZ ho eT N => by
    obtain ⟨T', X', e', s'⟩ := instY X hx hZ ho w eT F (g := mkF _ pc Ls (.ref a :: st)) rfl rfl (hb b hd)
    exact ⟨T', h, _, X', e', rfl, N, s' _ (Steps.refl _)⟩
  exact r'
theorem instNo {K C : String} {index : Nat} {a : Addr} (r : Rch l Z n0 R y bytes mx rt D h k n pc Ls (.ref a :: st)) (hd : decode bytes pc = .ok (.instanceof index, 3)) (w : (Jvm.Cond.classLink y.cls index K).before a0 Z = true) (E : Exa Z h a C) (F : ∃ c t, Z.vm.findClass C = some c ∧ Z.vm.findClass K = some t ∧ Z.vm.assignable c t = false) : Rch l Z n0 R y bytes mx rt D h k n (pc + 3) Ls (.int 0 :: st) := by
  obtain ⟨h', rfl, r'⟩ := r.mv (P := fun h' => h = h') (st' := fun _ => .int 0 :: st) (k' := k) (n' := n) (pc' := pc + 3) (Ls' := Ls) fun X hx b _ _ hZ ho eT N => by
    obtain ⟨T', X', e', s'⟩ := Jvm.RoadKit.instNo X hx hZ ho w eT E F (g := mkF _ pc Ls (.ref a :: st)) rfl rfl (hb b hd)
    exact ⟨T', h, _, X', e', rfl, N, s' _ (Steps.refl _)⟩
  exact r'
theorem instNull {index : Nat} (r : Rch l Z n0 R y bytes mx rt D h k n pc Ls (.null :: st)) (hd : decode bytes pc = .ok (.instanceof index, 3)) : Rch l Z n0 R y bytes mx rt D h k n (pc + 3) Ls (.int 0 :: st) := r.go fun X hx b _ _ _ t q => X.instanceofNull hx (g := mkF _ pc Ls (.null :: st)) rfl rfl (hb b hd) t q
theorem castYes {K : String} {index : Nat} {a : Addr} (r : Rch l Z n0 R y bytes mx rt D h k n pc Ls (.ref a :: st)) (hd : decode bytes pc = .ok (.checkcast index, 3)) (w : (Jvm.Cond.classLink y.cls index K).before a0 Z = true) (F : Ins Z h a K true) : Rch l Z n0 R y bytes mx rt D h k n (pc + 3) Ls (.ref a :: st) := by
  obtain ⟨h', rfl, r'⟩ := r.mv (P := fun h' => h = h') (st' := fun _ => .ref a :: st) (k' := k) (n' := n) (pc' := pc + 3) (Ls' := Ls) fun X hx b _ _ hZ ho eT N => by
    obtain ⟨T', X', e', s'⟩ := castY X hx hZ ho w eT F (g := mkF _ pc Ls (.ref a :: st)) rfl rfl (hb b hd)
    exact ⟨T', h, _, X', e', rfl, N, s' _ (Steps.refl _)⟩
  exact r'
theorem aaload {a : Addr} {c : Cell} {ty : FieldType} {j : Int32} {v : Value} (r : Rch l Z n0 R y bytes mx rt D h k n pc Ls (.int j :: .ref a :: st)) (hd : decode bytes pc = .ok (.aaload, 1)) (A : Arr Z h a c ty) (ht : ty.isReference = true) (hi : ¬ (j < 0 ∨ c.slots.size ≤ j.toNatClampNeg)) (hv : c.slots[j.toNatClampNeg]? = some v) : Rch l Z n0 R y bytes mx rt D h k n (pc + 1) Ls (v :: st) :=
  r.go fun X hx b hZ _ eT t q => X.aaload hx (j := j) (v := v) (by rw [eT]; exact A.1) (State.isArrayOf_alike hZ.alike A.2.1) ht A.2.2 hi hv (g := mkF _ pc Ls (.int j :: .ref a :: st)) rfl rfl (hb b hd) t q
/-! arrays: their elements as a list -/
def VA (Z : State) (h : Heap) (a : Addr) (ty : FieldType) (vs : List Value) : Prop := ∃ c : Cell, Arr Z h a c ty ∧ c.slots = vs.toArray ∧ vs.length < 2 ^ 31
section Facts
variable {a b : Addr} {ty : FieldType} {vs : List Value} {sl : Nat} {v : Value} {ws : List Addr}
theorem VA.lt (A : VA Z h a ty vs) : a < h.size := by obtain ⟨c, A, -⟩ := A; exact A.lt
theorem VA.len (A : VA Z h a ty vs) : vs.length < 2 ^ 31 := by obtain ⟨c, -, -, q⟩ := A; exact q
theorem VA.ext (A : VA Z h a ty vs) (E : Ext h h') : VA Z h' a ty vs := by obtain ⟨c, A, r⟩ := A; exact ⟨c, A.ext E, r⟩
theorem VA.other (A : VA Z h b ty vs) (W : Wr h h' a sl v) (q : b ≠ a) : VA Z h' b ty vs := by obtain ⟨c, A, r⟩ := A; exact ⟨c, A.other W q, r⟩
theorem VA.keep (A : VA Z h a ty vs) (K : Keep h h' ws) (q : a ∉ ws) : VA Z h' a ty vs := by obtain ⟨c, A, r⟩ := A; exact ⟨c, ⟨K.2.1 a c A.1 q, A.2⟩, r⟩
theorem VA.set (A : VA Z h a ty vs) (W : Wr h h' a sl v) : VA Z h' a ty (vs.set sl v) := by
  obtain ⟨c, A, e, q⟩ := A
  refine ⟨c.setSlot sl v, A.same W, ?_, by simpa using q⟩
  show c.slots.setIfInBounds sl v = _
  rw [e]; simp
theorem VA.new {cA : ClassId} {z : Int32} (A : Arr Z h a (newA cA ty z) ty) (q : ¬ z < 0) : VA Z h a ty (List.replicate z.toNatClampNeg (defaultValue ty)) := by
  refine ⟨_, A, ?_, ?_⟩
  · simp [newA]
  · rw [List.length_replicate]; exact (back32 q).2
theorem VA.inb (A : VA Z h a ty vs) {j : Int32} (hj : ¬ j < 0) (hlt : j.toNatClampNeg < vs.length) : ∃ c, Arr Z h a c ty ∧ c.slots = vs.toArray ∧ ¬ (j < 0 ∨ c.slots.size ≤ j.toNatClampNeg) := by
  obtain ⟨c, A, e, -⟩ := A
  exact ⟨c, A, e, fun q => q.elim hj fun q => by rw [e] at q; simp at q; omega⟩
theorem ne_lt {x z : Addr} {H : Heap} (p : x < H.size) (q : z = H.size) : x ≠ z := fun e => by rw [e, q] at p; exact Nat.lt_irrefl _ p
end Facts
theorem newArr {aty : ArrayType} {z : Int32} {cap : Nat} (r : Rch l Z n0 R y bytes mx rt D h k n pc Ls (.int z :: st)) (hd : decode bytes pc = .ok (.newarray aty, 2)) (w : (Jvm.Cond.arrayClass (newarray.typeOf aty)).before a0 Z = true) (hz : ¬ z < 0) (hcap : z.toNatClampNeg ≤ cap) (h8 : cap * 8 ≤ 536870912) (hc : k + 1 ≤ R.cells) (hl : n + cap ≤ R.slots) :
    ∃ h', (Ext h h' ∧ VA Z h' h.size (newarray.typeOf aty) (List.replicate z.toNatClampNeg (defaultValue (newarray.typeOf aty)))) ∧ Rch l Z n0 R y bytes mx rt D h' (k + 1) (n + cap) (pc + 2) Ls (.ref h.size :: st) :=
  r.mv (P := fun h' => Ext h h' ∧ VA Z h' h.size (newarray.typeOf aty) (List.replicate z.toNatClampNeg (defaultValue (newarray.typeOf aty)))) (st' := fun _ => .ref h.size :: st) fun X hx b _ _ hZ ho eT N => by
    obtain ⟨T', h', cA, X', e', E', A', s'⟩ := newP X hx hZ w eT (g := mkF _ pc Ls (.int z :: st)) rfl (hb b hd) rfl hz hcap h8 hc hl
    exact ⟨T', h', _, X', e', ⟨E', VA.new A' hz⟩, N, s' _ (Steps.refl _)⟩
theorem newRef {C : String} {index : Nat} {z : Int32} {cap : Nat} (r : Rch l Z n0 R y bytes mx rt D h k n pc Ls (.int z :: st)) (hd : decode bytes pc = .ok (.anewarray index, 3)) (w1 : (Jvm.Cond.classLink y.cls index C).before a0 Z = true) (w2 : (Jvm.Cond.arrayOver (.object C)).before a0 Z = true) (hz : ¬ z < 0) (hcap : z.toNatClampNeg ≤ cap) (h8 : cap * 8 ≤ 536870912) (hc : k + 1 ≤ R.cells) (hl : n + cap ≤ R.slots) :
    ∃ h', (Ext h h' ∧ VA Z h' h.size (.object C) (List.replicate z.toNatClampNeg .null)) ∧ Rch l Z n0 R y bytes mx rt D h' (k + 1) (n + cap) (pc + 3) Ls (.ref h.size :: st) :=
  r.mv (P := fun h' => Ext h h' ∧ VA Z h' h.size (.object C) (List.replicate z.toNatClampNeg .null)) (st' := fun _ => .ref h.size :: st) fun X hx b _ _ hZ ho eT N => by
    obtain ⟨T', h', cA, X', e', E', A', -, s'⟩ := newR X hx hZ ho w1 w2 eT (g := mkF _ pc Ls (.int z :: st)) rfl (hb b hd) rfl hz hcap h8 hc hl
    exact ⟨T', h', _, X', e', ⟨E', VA.new A' hz⟩, N, s' _ (Steps.refl _)⟩
theorem arrlen {a : Addr} {ty : FieldType} {vs : List Value} {z : Int32} (r : Rch l Z n0 R y bytes mx rt D h k n pc Ls (.ref a :: st)) (hd : decode bytes pc = .ok (.arraylength, 1)) (A : VA Z h a ty vs) (hz : vs.length.toInt32 = z) : Rch l Z n0 R y bytes mx rt D h k n (pc + 1) Ls (.int z :: st) := by
  subst hz
  obtain ⟨c, A, e, -⟩ := A
  have q : vs.length = c.slots.size := by rw [e]; simp
  rw [q]
  exact r.go fun X hx b hZ _ eT t q => X.arraylength hx (by rw [eT]; exact A.1) (State.isArrayOf_alike hZ.alike A.2.1) (g := mkF _ pc Ls (.ref a :: st)) rfl rfl (hb b hd) t q
theorem VA.arv {a : Addr} {L : List Int32} (A : VA Z h a .int (L.map Value.int)) : ∃ kc, Arv Z h a kc .int L.length.toInt32 (L.map Value.int) (.int 0) := by
  obtain ⟨c, A, e, hl⟩ := A
  rw [List.length_map] at hl
  have hz : L.length.toInt32.toInt = L.length := len_toInt hl
  have e1 : L.length.toInt32.toNatClampNeg = L.length := by unfold Int32.toNatClampNeg; omega
  refine ⟨c.cls, c, A, rfl, by rw [e, e1]; simp, by rw [Int32.lt_iff_toInt_lt]; have : (0 : Int32).toInt = 0 := rfl; omega, fun i hi => ?_, fun i hi => ?_⟩
  · rw [e] at hi ⊢
    simp at hi
    simp [List.getD_eq_getElem?_getD, hi]
  · rw [List.getD_eq_getElem?_getD, List.getElem?_map]
    cases L[i]? <;> rfl
theorem VA.of_arv {a : Addr} {kc : ClassId} {z : Int32} {vs : List Value} {d : Value} (A : Arv Z h a kc ty z vs d) (hz : z.toNatClampNeg = vs.length) : VA Z h a ty vs := by
  obtain ⟨c, A, -, S, Nz, H, -⟩ := A
  refine ⟨c, A, ?_, by rw [← hz]; exact (back32 Nz).2⟩
  apply Array.ext'
  apply List.ext_getElem?
  intro i
  by_cases q : i < c.slots.size
  · have := H i q
    rw [Array.getElem?_toList, this]
    have q' : i < vs.length := by omega
    simp [List.getD_eq_getElem?_getD, q']
  · rw [Array.getElem?_toList, Array.getElem?_eq_none (by omega)]
    simp; omega
theorem arrcopy {index : Nat} {a b : Addr} {L M : List Int32} {nn : Int32} {W : Nat} (r : Rch l Z n0 R y bytes mx rt D h k n pc Ls (.int nn :: .int 0 :: .ref b :: .int 0 :: .ref a :: st)) (hd : decode bytes pc = .ok (.invokestatic index, 3)) (w1 : (Jvm.Cond.methodLink y.cls index Jvm.Stand.acN).before a0 Z = true) (w2 : (Jvm.Cond.native Jvm.Stand.acN).before a0 Z = true) (w3 : (Jvm.Cond.static Jvm.Stand.acN).before a0 Z = true) (w4 : (Jvm.Cond.initialized "java/lang/System").before a0 Z = true)
    (A : VA Z h a .int (L.map Value.int)) (B : VA Z h b .int (M.map Value.int)) (hn : ¬ nn < 0) (h4 : nn.toNatClampNeg ≤ L.length) (h5 : nn.toNatClampNeg ≤ M.length) (ge : n0 ≤ b) (hsz : Ls.size = mx) (hf : 1 ≤ R.frames) (hW : (st.map fun v => v.category).sum ≤ W) (hlo : W + (nativeFrameWords "java/lang/System" "arraycopy" 5 + 11) ≤ R.locals) :
    ∃ h', (Keep h h' [b] ∧ VA Z h' b .int ((L.take nn.toNatClampNeg ++ M.drop nn.toNatClampNeg).map Value.int)) ∧ Rch l Z n0 R y bytes mx rt D h' k n (pc + 3) Ls st :=
  r.mv (P := fun h' => Keep h h' [b] ∧ VA Z h' b .int ((L.take nn.toNatClampNeg ++ M.drop nn.toNatClampNeg).map Value.int)) (st' := fun _ => st) fun X hx bb hml _ hZ ho eT N => by
    have lA := A.len; have lB := B.len
    rw [List.length_map] at lA lB
    obtain ⟨ka, A'⟩ := A.arv
    obtain ⟨kb, B'⟩ := B.arv
    have zA : L.length.toInt32.toNatClampNeg = L.length := by have := len_toInt lA; unfold Int32.toNatClampNeg; omega
    have zB : M.length.toInt32.toNatClampNeg = M.length := by have := len_toInt lB; unfold Int32.toNatClampNeg; omega
    have z0 : (0 : Int32).toNatClampNeg = 0 := rfl
    obtain ⟨T', h', LL, X', e', N', K, V, s'⟩ := cpA X hx hZ ho w1 w2 w3 w4 eT A' B' (Or.inl ⟨rfl, rfl⟩) (sp := 0) (dp := 0) (nn := nn) (by decide) (by decide) hn (by rw [z0, zA]; omega) (by rw [z0, zB]; omega) (us := (L.take nn.toNatClampNeg).map Value.int) (by
      rw [z0]
      apply List.ext_getElem?
      intro i
      by_cases q : i < nn.toNatClampNeg
      · have q' : i < L.length := by omega
        simp [q, q', List.getD_eq_getElem?_getD]
      · simp [q]; omega) (by rw [z0, List.length_map]; omega) N ge (g := mkF _ pc Ls (.int nn :: .int 0 :: .ref b :: .int 0 :: .ref a :: st)) rfl (hsz.trans hml.symm) rfl (hb bb hd) hf (W := W) (by show 2 * 0 + _ ≤ _; omega) hlo
    rw [z0] at V
    refine ⟨T', h', LL, X', e', ⟨K, ?_⟩, N', s' _ (Steps.refl _)⟩
    have V2 := VA.of_arv V (by rw [zB]; simp; omega)
    simpa using V2
theorem iaload {a : Addr} {vs : List Value} {j : Int32} {v : Value} (r : Rch l Z n0 R y bytes mx rt D h k n pc Ls (.int j :: .ref a :: st)) (hd : decode bytes pc = .ok (.iaload, 1)) (A : VA Z h a .int vs) (hj : ¬ j < 0) (hv : vs[j.toNatClampNeg]? = some v) : Rch l Z n0 R y bytes mx rt D h k n (pc + 1) Ls (v :: st) := by
  obtain ⟨c, A, e, hi⟩ := A.inb hj (List.getElem?_eq_some_iff.mp hv).1
  exact r.go fun X hx b hZ _ eT t q => X.iaload hx (j := j) (v := v) (by rw [eT]; exact A.1) (State.isArrayOf_alike hZ.alike A.2.1) A.2.2 hi (by rw [e]; simpa using hv) (g := mkF _ pc Ls (.int j :: .ref a :: st)) rfl rfl (hb b hd) t q
theorem laload {a : Addr} {vs : List Value} {j : Int32} {v : Value} (r : Rch l Z n0 R y bytes mx rt D h k n pc Ls (.int j :: .ref a :: st)) (hd : decode bytes pc = .ok (.laload, 1)) (A : VA Z h a .long vs) (hj : ¬ j < 0) (hv : vs[j.toNatClampNeg]? = some v) : Rch l Z n0 R y bytes mx rt D h k n (pc + 1) Ls (v :: st) := by
  obtain ⟨c, A, e, hi⟩ := A.inb hj (List.getElem?_eq_some_iff.mp hv).1
  exact r.go fun X hx b hZ _ eT t q => X.laload hx (j := j) (v := v) (by rw [eT]; exact A.1) (State.isArrayOf_alike hZ.alike A.2.1) A.2.2 hi (by rw [e]; simpa using hv) (g := mkF _ pc Ls (.int j :: .ref a :: st)) rfl rfl (hb b hd) t q
theorem caload {a : Addr} {vs : List Value} {j : Int32} {v : Value} (r : Rch l Z n0 R y bytes mx rt D h k n pc Ls (.int j :: .ref a :: st)) (hd : decode bytes pc = .ok (.caload, 1)) (A : VA Z h a .char vs) (hj : ¬ j < 0) (hv : vs[j.toNatClampNeg]? = some v) : Rch l Z n0 R y bytes mx rt D h k n (pc + 1) Ls (v :: st) := by
  obtain ⟨c, A, e, hi⟩ := A.inb hj (List.getElem?_eq_some_iff.mp hv).1
  exact r.go fun X hx b hZ _ eT t q => X.caload hx (j := j) (v := v) (by rw [eT]; exact A.1) (State.isArrayOf_alike hZ.alike A.2.1) A.2.2 hi (by rw [e]; simpa using hv) (g := mkF _ pc Ls (.int j :: .ref a :: st)) rfl rfl (hb b hd) t q
theorem baload {a : Addr} {vs : List Value} {j : Int32} {v : Value} (r : Rch l Z n0 R y bytes mx rt D h k n pc Ls (.int j :: .ref a :: st)) (hd : decode bytes pc = .ok (.baload, 1)) (A : VA Z h a .byte vs) (hj : ¬ j < 0) (hv : vs[j.toNatClampNeg]? = some v) : Rch l Z n0 R y bytes mx rt D h k n (pc + 1) Ls (v :: st) := by
  obtain ⟨c, A, e, hi⟩ := A.inb hj (List.getElem?_eq_some_iff.mp hv).1
  exact r.go fun X hx b hZ _ eT t q => X.baloadBytes hx (j := j) (v := v) (by rw [eT]; exact A.1) (State.isArrayOf_alike hZ.alike A.2.1) A.2.2 hi (by rw [e]; simpa using hv) (g := mkF _ pc Ls (.int j :: .ref a :: st)) rfl rfl (hb b hd) t q
theorem zaload {a : Addr} {vs : List Value} {j : Int32} {v : Value} (r : Rch l Z n0 R y bytes mx rt D h k n pc Ls (.int j :: .ref a :: st)) (hd : decode bytes pc = .ok (.baload, 1)) (A : VA Z h a .boolean vs) (hj : ¬ j < 0) (hv : vs[j.toNatClampNeg]? = some v) : Rch l Z n0 R y bytes mx rt D h k n (pc + 1) Ls (v :: st) := by
  obtain ⟨c, A, e, hi⟩ := A.inb hj (List.getElem?_eq_some_iff.mp hv).1
  exact r.go fun X hx b hZ _ eT t q => X.baloadBooleans hx (j := j) (v := v) (by rw [eT]; exact A.1) (State.isArrayOf_alike hZ.alike A.2.1) A.2.2 hi (by rw [e]; simpa using hv) (g := mkF _ pc Ls (.int j :: .ref a :: st)) rfl rfl (hb b hd) t q
theorem iastore {a : Addr} {vs : List Value} {j : Int32} {x : Int32} (r : Rch l Z n0 R y bytes mx rt D h k n pc Ls (.int x :: .int j :: .ref a :: st)) (hd : decode bytes pc = .ok (.iastore, 1)) (A : VA Z h a .int vs) (hj : ¬ j < 0) (hlt : j.toNatClampNeg < vs.length) (hg : n0 ≤ a) :
    ∃ h', (Wr h h' a j.toNatClampNeg (.int x) ∧ VA Z h' a .int (vs.set j.toNatClampNeg (.int x))) ∧ Rch l Z n0 R y bytes mx rt D h' k n (pc + 1) Ls st :=
  r.mv (P := fun h' => Wr h h' a j.toNatClampNeg (.int x) ∧ VA Z h' a .int (vs.set j.toNatClampNeg (.int x))) (st' := fun _ => st) fun X hx b _ _ hZ ho eT N => by
    obtain ⟨c, A', e, hi⟩ := A.inb hj hlt
    obtain ⟨T', h', X', e', W, s'⟩ := stI X hx hZ eT A' (j := j) hi (g := mkF _ pc Ls (.int x :: .int j :: .ref a :: st)) rfl rfl (hb b hd)
    exact ⟨T', h', _, X', e', ⟨W, A.set W⟩, Fr.snoc X' N hg, s' _ (Steps.refl _)⟩
theorem lastore {a : Addr} {vs : List Value} {j : Int32} {x : Int64} (r : Rch l Z n0 R y bytes mx rt D h k n pc Ls (.long x :: .int j :: .ref a :: st)) (hd : decode bytes pc = .ok (.lastore, 1)) (A : VA Z h a .long vs) (hj : ¬ j < 0) (hlt : j.toNatClampNeg < vs.length) (hg : n0 ≤ a) :
    ∃ h', (Wr h h' a j.toNatClampNeg (.long x) ∧ VA Z h' a .long (vs.set j.toNatClampNeg (.long x))) ∧ Rch l Z n0 R y bytes mx rt D h' k n (pc + 1) Ls st :=
  r.mv (P := fun h' => Wr h h' a j.toNatClampNeg (.long x) ∧ VA Z h' a .long (vs.set j.toNatClampNeg (.long x))) (st' := fun _ => st) fun X hx b _ _ hZ ho eT N => by
    obtain ⟨c, A', e, hi⟩ := A.inb hj hlt
    obtain ⟨T', h', X', e', W, s'⟩ := stJ X hx hZ eT A' (j := j) hi (g := mkF _ pc Ls (.long x :: .int j :: .ref a :: st)) rfl rfl (hb b hd)
    exact ⟨T', h', _, X', e', ⟨W, A.set W⟩, Fr.snoc X' N hg, s' _ (Steps.refl _)⟩
theorem castore {a : Addr} {vs : List Value} {j : Int32} {x : Int32} (r : Rch l Z n0 R y bytes mx rt D h k n pc Ls (.int x :: .int j :: .ref a :: st)) (hd : decode bytes pc = .ok (.castore, 1)) (A : VA Z h a .char vs) (hj : ¬ j < 0) (hlt : j.toNatClampNeg < vs.length) (hg : n0 ≤ a) :
    ∃ h', (Wr h h' a j.toNatClampNeg (.int (nar .char x)) ∧ VA Z h' a .char (vs.set j.toNatClampNeg (.int (nar .char x)))) ∧ Rch l Z n0 R y bytes mx rt D h' k n (pc + 1) Ls st :=
  r.mv (P := fun h' => Wr h h' a j.toNatClampNeg (.int (nar .char x)) ∧ VA Z h' a .char (vs.set j.toNatClampNeg (.int (nar .char x)))) (st' := fun _ => st) fun X hx b _ _ hZ ho eT N => by
    obtain ⟨c, A', e, hi⟩ := A.inb hj hlt
    obtain ⟨T', h', X', e', W, s'⟩ := stC X hx hZ eT A' (j := j) hi (g := mkF _ pc Ls (.int x :: .int j :: .ref a :: st)) rfl rfl (hb b hd)
    exact ⟨T', h', _, X', e', ⟨W, A.set W⟩, Fr.snoc X' N hg, s' _ (Steps.refl _)⟩
theorem bastore {a : Addr} {vs : List Value} {j : Int32} {x : Int32} (r : Rch l Z n0 R y bytes mx rt D h k n pc Ls (.int x :: .int j :: .ref a :: st)) (hd : decode bytes pc = .ok (.bastore, 1)) (A : VA Z h a .byte vs) (hj : ¬ j < 0) (hlt : j.toNatClampNeg < vs.length) (hg : n0 ≤ a) :
    ∃ h', (Wr h h' a j.toNatClampNeg (.int (nar .byte x)) ∧ VA Z h' a .byte (vs.set j.toNatClampNeg (.int (nar .byte x)))) ∧ Rch l Z n0 R y bytes mx rt D h' k n (pc + 1) Ls st :=
  r.mv (P := fun h' => Wr h h' a j.toNatClampNeg (.int (nar .byte x)) ∧ VA Z h' a .byte (vs.set j.toNatClampNeg (.int (nar .byte x)))) (st' := fun _ => st) fun X hx b _ _ hZ ho eT N => by
    obtain ⟨c, A', e, hi⟩ := A.inb hj hlt
    obtain ⟨T', h', X', e', W, s'⟩ := stB X hx hZ eT A' (j := j) hi (g := mkF _ pc Ls (.int x :: .int j :: .ref a :: st)) rfl rfl (hb b hd)
    exact ⟨T', h', _, X', e', ⟨W, A.set W⟩, Fr.snoc X' N hg, s' _ (Steps.refl _)⟩
theorem zastore {a : Addr} {vs : List Value} {j : Int32} {x : Int32} (r : Rch l Z n0 R y bytes mx rt D h k n pc Ls (.int x :: .int j :: .ref a :: st)) (hd : decode bytes pc = .ok (.bastore, 1)) (A : VA Z h a .boolean vs) (hj : ¬ j < 0) (hlt : j.toNatClampNeg < vs.length) (hg : n0 ≤ a) :
    ∃ h', (Wr h h' a j.toNatClampNeg (.int (nar .boolean x)) ∧ VA Z h' a .boolean (vs.set j.toNatClampNeg (.int (nar .boolean x)))) ∧ Rch l Z n0 R y bytes mx rt D h' k n (pc + 1) Ls st :=
  r.mv (P := fun h' => Wr h h' a j.toNatClampNeg (.int (nar .boolean x)) ∧ VA Z h' a .boolean (vs.set j.toNatClampNeg (.int (nar .boolean x)))) (st' := fun _ => st) fun X hx b _ _ hZ ho eT N => by
    obtain ⟨c, A', e, hi⟩ := A.inb hj hlt
    obtain ⟨T', h', X', e', W, s'⟩ := stZ X hx hZ eT A' (j := j) hi (g := mkF _ pc Ls (.int x :: .int j :: .ref a :: st)) rfl rfl (hb b hd)
    exact ⟨T', h', _, X', e', ⟨W, A.set W⟩, Fr.snoc X' N hg, s' _ (Steps.refl _)⟩
/-! the end -/
theorem Rch.ret0 (r : Rch l Z n0 R y bytes mx none D h k n pc Ls []) (hd : decode bytes pc = .ok (.return_, 1)) : Don l Z n0 R D h k n none := by
  obtain ⟨p, e, s, m, args, below, meth, c, s₁, g0⟩ := D
  obtain ⟨⟨hx, hbb, hml, ho, hZ, hr, hlk, hnm⟩, T, locs, X, eT, N, hs⟩ := r
  obtain ⟨fs, hl, hrun, hended, hW, hsame⟩ := X.leave (v := none) (fun _ => rfl) hlk
  exact ⟨T, locs, fs, X, eT, N, hs.trans (X.returnOut hx hr (hb hbb hd) hl), eT, hrun, hended, hW, hsame⟩
theorem Rch.retV {i : Instr} {t : FieldType} {w : Value} (r : Rch l Z n0 R y bytes mx (some t) D h k n pc Ls (w :: st)) (hd : decode bytes pc = .ok (i, 1)) (hn : narrow t w = w)
    (hi : (i = .ireturn ∧ (t = .int ∨ t = .boolean ∨ t = .byte ∨ t = .char ∨ t = .short) ∧ ∃ z, w = .int z) ∨ (i = .lreturn ∧ t = .long ∧ ∃ z, w = .long z) ∨ (i = .dreturn ∧ t = .double ∧ ∃ z, w = .double z) ∨ (i = .freturn ∧ t = .float ∧ ∃ z, w = .float z) ∨ (i = .areturn ∧ t.isReference = true ∧ w.isRef = true)) : Don l Z n0 R D h k n (some w) := by
  obtain ⟨p, e, s, m, args, below, meth, c, s₁, g0⟩ := D
  obtain ⟨⟨hx, hbb, hml, ho, hZ, hr, hlk, hnm⟩, T, locs, X, eT, N, hs⟩ := r
  obtain ⟨fs, hl, hrun, hended, hW, hsame⟩ := X.leave (v := some w) (fun q => by rw [hr] at q; cases q) hlk
  exact ⟨T, locs, fs, X, eT, N, hs.trans (retOut X hx hr hn hi (hb hbb hd) hl), eT, hrun, hended, hW, hsame⟩
theorem Rch.retI {z : Int32} (r : Rch l Z n0 R y bytes mx (some .int) D h k n pc Ls (.int z :: st)) (hd : decode bytes pc = .ok (.ireturn, 1)) : Don l Z n0 R D h k n (some (.int z)) := r.retV hd rfl (Or.inl ⟨rfl, Or.inl rfl, z, rfl⟩)
theorem Rch.retJ {z : Int64} (r : Rch l Z n0 R y bytes mx (some .long) D h k n pc Ls (.long z :: st)) (hd : decode bytes pc = .ok (.lreturn, 1)) : Don l Z n0 R D h k n (some (.long z)) := r.retV hd rfl (Or.inr (Or.inl ⟨rfl, rfl, z, rfl⟩))
theorem Rch.retZ {z : Int32} (r : Rch l Z n0 R y bytes mx (some .boolean) D h k n pc Ls (.int z :: st)) (hd : decode bytes pc = .ok (.ireturn, 1)) (hz : z &&& 1 = z) : Don l Z n0 R D h k n (some (.int z)) := r.retV hd (congrArg Value.int hz) (Or.inl ⟨rfl, Or.inr (Or.inl rfl), z, rfl⟩)
theorem Rch.retB {z : Int32} (r : Rch l Z n0 R y bytes mx (some .byte) D h k n pc Ls (.int z :: st)) (hd : decode bytes pc = .ok (.ireturn, 1)) (hz : z.toInt8.toInt32 = z) : Don l Z n0 R D h k n (some (.int z)) := r.retV hd (congrArg Value.int hz) (Or.inl ⟨rfl, Or.inr (Or.inr (Or.inl rfl)), z, rfl⟩)
theorem Rch.retA {t : FieldType} {w : Value} (r : Rch l Z n0 R y bytes mx (some t) D h k n pc Ls (w :: st)) (hd : decode bytes pc = .ok (.areturn, 1)) (ht : t.isReference = true) (hw : w.isRef = true) : Don l Z n0 R D h k n (some w) := r.retV hd (by rcases ref_cases hw with rfl | ⟨q, rfl⟩ <;> cases t <;> first | rfl | cases ht) (Or.inr (Or.inr (Or.inr (Or.inr ⟨rfl, ht, hw⟩))))
theorem Don.more {v : Option Value} (r : Don l Z n0 R D h k n v) {k' n' : Nat} (hk : k ≤ k') (hn : n ≤ n') : Don l Z n0 R D h k' n' v := by
  obtain ⟨p, e, s, m, args, below, meth, c, s₁, g0⟩ := D
  obtain ⟨T, locs, fs, X, eT, N, hs, hh, hrun, hend, hW, hsame⟩ := r
  exact ⟨T, locs, fs, X.more hk hn, eT, N, hs, hh, hrun, hend, hW, hsame.mono hk hn⟩
/-! calls -/
section Calls
variable {index : Nat} {y' : MethodName} {bytes' : ByteArray} {mx' : Nat} {rt' : Option FieldType} {rm : Room} {as' : Array Value} {Q : Option Value → Heap → Prop} {W : Nat} {rest : List Value}
theorem callS (argsL : List Value) (r : Rch l Z n0 R y bytes mx rt D h k n pc Ls st) (hd : decode bytes pc = .ok (.invokestatic index, 3)) (K : Con l Z n0 y' bytes' mx' rt' rm as' h Q) (w1 : (Jvm.Cond.methodLink y.cls index y').before a0 Z = true) (w2 : (Jvm.Cond.static y').before a0 Z = true) (w3 : (Jvm.Cond.initialized y'.cls).before a0 Z = true) (w4 : (Jvm.Cond.code y' bytes' mx' rt').before a0 Z = true)
    (hlen : ∀ sig, parseMethodDescriptor y'.desc = some sig → argsL.length = sig.parameters.length) (has : argsL.toArray = as') (hst : st = argsL.reverse ++ rest) (hW : (rest.map fun v => v.category).sum ≤ W) (hsz : Ls.size = mx) (hy : y'.cls ≠ "java/lang/invoke/MethodHandle" ∧ y'.cls ≠ "java/lang/invoke/VarHandle") (hf : rm.frames + 1 ≤ R.frames) (hlo : W + (mx' + 11) + rm.locals ≤ R.locals) (hc : k + rm.cells ≤ R.cells) (hs : n + rm.slots ≤ R.slots) :
    ∃ v h', Q v h' ∧ Rch l Z n0 R y bytes mx rt D h' (k + rm.cells) (n + rm.slots) (pc + 3) Ls (v.toList ++ rest) := by
  obtain ⟨p, e, s, m, args, below, meth, c, s₁, g0⟩ := D
  obtain ⟨hB, T, locs, X, eT, N, hs0⟩ := r
  obtain ⟨hx, hbb, hml, ho, hZ, hr, hlk, hnm⟩ := id hB
  subst hst
  obtain ⟨v, vm₁, ⟨T', L', k', n'⟩, -, X', ⟨Lc, ⟨N', hQ⟩, l1, y1, z1⟩, s'⟩ := Jvm.LawKit.callS X hx (y := y') ho (mvT hZ w1) (mvT hZ w2) (mvT hZ w3) (mvT hZ w4) hy (backOf (W := W) (Q := fun v h L => Fr n0 L ∧ Q v h) (K []) hZ w4 w3 hf hlo) (g := mkF m pc Ls (argsL.reverse ++ rest)) rfl (hsz.trans hml.symm) (argsL := argsL) (rest := rest) hlen rfl (by show 2 * 0 + _ ≤ _; omega) (hb hbb hd) (fun _ _ => ⟨has, eT, hc, hs⟩)
  dsimp only [Pt.U, Pt.locs, Pt.cells, Pt.slots] at X' l1 y1 z1 s' hQ
  subst l1 y1 z1
  exact ⟨v, T'.heap, hQ, hB, T', _, X', rfl, Fr.app N N', hs0.trans (s' _ (Steps.refl _))⟩
theorem callI {a : Addr} (argsL : List Value) (r : Rch l Z n0 R y bytes mx rt D h k n pc Ls st) (hd : decode bytes pc = .ok (.invokespecial index, 3)) (K : Con l Z n0 y' bytes' mx' none rm as' h Q) (w1 : (Jvm.Cond.methodLink y.cls index y').before a0 Z = true) (w2 : (Jvm.Cond.instanceMethod y').before a0 Z = true) (w3 : (Jvm.Cond.initialized y'.cls).before a0 Z = true) (w4 : (Jvm.Cond.code y' bytes' mx' none).before a0 Z = true) (hin : y'.name = "<init>")
    (hlen : ∀ sig, parseMethodDescriptor y'.desc = some sig → argsL.length = sig.parameters.length) (has : (.ref a :: argsL).toArray = as') (hst : st = argsL.reverse ++ .ref a :: rest) (hW : (rest.map fun v => v.category).sum ≤ W) (hsz : Ls.size = mx) (hy : y'.cls ≠ "java/lang/invoke/MethodHandle" ∧ y'.cls ≠ "java/lang/invoke/VarHandle") (hf : rm.frames + 1 ≤ R.frames) (hlo : W + (mx' + 11) + rm.locals ≤ R.locals) (hc : k + rm.cells ≤ R.cells) (hs : n + rm.slots ≤ R.slots) :
    ∃ v h', Q v h' ∧ Rch l Z n0 R y bytes mx rt D h' (k + rm.cells) (n + rm.slots) (pc + 3) Ls (v.toList ++ rest) := by
  obtain ⟨p, e, s, m, args, below, meth, c, s₁, g0⟩ := D
  obtain ⟨hB, T, locs, X, eT, N, hs0⟩ := r
  obtain ⟨hx, hbb, hml, ho, hZ, hr, hlk, hnm⟩ := id hB
  subst hst
  obtain ⟨v, vm₁, ⟨T', L', k', n'⟩, -, X', ⟨Lc, ⟨N', hQ⟩, l1, y1, z1⟩, s'⟩ := X.specialBack hx (y := y') hin ho (mvT hZ w1) (mvT hZ w2) (mvT hZ w4) hy (backOf (W := W) (Q := fun v h L => Fr n0 L ∧ Q v h) (K []) hZ w4 w3 hf hlo) (g := mkF m pc Ls (argsL.reverse ++ .ref a :: rest)) rfl (hsz.trans hml.symm) (Steps.refl _) (a := a) (argsL := argsL) (rest := rest) hlen rfl (by show 2 * 0 + _ ≤ _; omega) (hb hbb hd) (fun _ _ => ⟨has, eT, hc, hs⟩)
  dsimp only [Pt.U, Pt.locs, Pt.cells, Pt.slots] at X' l1 y1 z1 s' hQ
  subst l1 y1 z1
  exact ⟨v, T'.heap, hQ, hB, T', _, X', rfl, Fr.app N N', hs0.trans s'⟩
theorem callV {a : Addr} {yr : MethodName} {C : String} (argsL : List Value) (r : Rch l Z n0 R y bytes mx rt D h k n pc Ls st) (hd : decode bytes pc = .ok (.invokevirtual index, 3)) (K : Con l Z n0 y' bytes' mx' rt' rm as' h Q) (E : Exa Z h a C) (w1 : (Jvm.Cond.methodLink y.cls index yr).before a0 Z = true) (w2 : (Jvm.Cond.declares yr).before a0 Z = true) (nf : ∀ s : State, Z.Warmed39 s.vm → NotFace s yr) (w5 : (Jvm.Cond.selects C yr y').before a0 Z = true) (w6 : (Jvm.Cond.instanceMethod y').before a0 Z = true) (w3 : (Jvm.Cond.initialized y'.cls).before a0 Z = true) (w4 : (Jvm.Cond.code y' bytes' mx' rt').before a0 Z = true)
    (hlen : ∀ sig, parseMethodDescriptor yr.desc = some sig → argsL.length = sig.parameters.length) (has : (.ref a :: argsL).toArray = as') (hst : st = argsL.reverse ++ .ref a :: rest) (hW : (rest.map fun v => v.category).sum ≤ W) (hsz : Ls.size = mx) (hy : yr.cls ≠ "java/lang/invoke/MethodHandle" ∧ yr.cls ≠ "java/lang/invoke/VarHandle") (hf : rm.frames + 1 ≤ R.frames) (hlo : W + (mx' + 11) + rm.locals ≤ R.locals) (hc : k + rm.cells ≤ R.cells) (hs : n + rm.slots ≤ R.slots) :
    ∃ v h', Q v h' ∧ Rch l Z n0 R y bytes mx rt D h' (k + rm.cells) (n + rm.slots) (pc + 3) Ls (v.toList ++ rest) := by
  obtain ⟨p, e, s, m, args, below, meth, c, s₁, g0⟩ := D
  obtain ⟨hB, T, locs, X, eT, N, hs0⟩ := r
  obtain ⟨hx, hbb, hml, ho, hZ, hr, hlk, hnm⟩ := id hB
  subst hst
  obtain ⟨cq, kq, qa, qb, qc⟩ := isOf hZ eT E
  obtain ⟨v, vm₁, ⟨T', L', k', n'⟩, -, X', ⟨Lc, ⟨N', hQ⟩, l1, y1, z1⟩, s'⟩ := X.virtualBack hx (y := yr) (z := y') ho (mvT hZ w1) (mvT hZ w2) (nf s hZ) (mvT hZ w5) (mvT hZ w6) hy (backOf (W := W) (Q := fun v h L => Fr n0 L ∧ Q v h) (K []) hZ w4 w3 hf hlo) qa qc (g := mkF m pc Ls (argsL.reverse ++ .ref a :: rest)) rfl (hsz.trans hml.symm) (Steps.refl _) (argsL := argsL) (rest := rest) hlen rfl (by show 2 * 0 + _ ≤ _; omega) (hb hbb hd) (fun _ _ => ⟨has, eT, hc, hs⟩)
  dsimp only [Pt.U, Pt.locs, Pt.cells, Pt.slots] at X' l1 y1 z1 s' hQ
  subst l1 y1 z1
  exact ⟨v, T'.heap, hQ, hB, T', _, X', rfl, Fr.app N N', hs0.trans s'⟩
theorem nfS {yr : MethodName} {C : String} (w : (Jvm.Cond.selects C yr yr).before a0 Z = true) : ∀ s : State, Z.Warmed39 s.vm → NotFace s yr := fun s hZ => notFace_of_selects (args := #[]) (mvT hZ w)
theorem callP {a : Addr} {C : String} (argsL : List Value) (r : Rch l Z n0 R y bytes mx rt D h k n pc Ls st) (hd : decode bytes pc = .ok (.invokevirtual index, 3)) (K : Con l Z n0 y' bytes' mx' rt' rm as' h Q) (E : Exa Z h a C) (w1 : (Jvm.Cond.methodLink y.cls index y').before a0 Z = true) (w6 : (Jvm.Cond.instanceMethod y').before a0 Z = true) {kk : Nat} (wi : (Jvm.Cond.instantiable y'.cls kk).before a0 Z = true) (w7 : (Jvm.Cond.privateMethod y').before a0 Z = true) (w3 : (Jvm.Cond.initialized y'.cls).before a0 Z = true) (w4 : (Jvm.Cond.code y' bytes' mx' rt').before a0 Z = true)
    (hlen : ∀ sig, parseMethodDescriptor y'.desc = some sig → argsL.length = sig.parameters.length) (has : (.ref a :: argsL).toArray = as') (hst : st = argsL.reverse ++ .ref a :: rest) (hW : (rest.map fun v => v.category).sum ≤ W) (hsz : Ls.size = mx) (hy : y'.cls ≠ "java/lang/invoke/MethodHandle" ∧ y'.cls ≠ "java/lang/invoke/VarHandle") (hf : rm.frames + 1 ≤ R.frames) (hlo : W + (mx' + 11) + rm.locals ≤ R.locals) (hc : k + rm.cells ≤ R.cells) (hs : n + rm.slots ≤ R.slots) :
    ∃ v h', Q v h' ∧ Rch l Z n0 R y bytes mx rt D h' (k + rm.cells) (n + rm.slots) (pc + 3) Ls (v.toList ++ rest) := by
  obtain ⟨p, e, s, m, args, below, meth, c, s₁, g0⟩ := D
  obtain ⟨hB, T, locs, X, eT, N, hs0⟩ := r
  obtain ⟨hx, hbb, hml, ho, hZ, hr, hlk, hnm⟩ := id hB
  subst hst
  obtain ⟨cq, q1, q2⟩ := E.cell
  have hpv : s.PrivateAt y' := Cond.privateMethod_at (mvP hZ w7 (args := #[]))
  obtain ⟨ci, ki, i1, i2, -, i4, -, -⟩ := Cond.instantiable_spec (mvT (args := args) hZ wi)
  have hni : ki.isInterface = false := by
    cases q : ki.isInterface with
    | false => rfl
    | true => rw [q] at i4; simp at i4
  have hsel := selects_self_of_private (args := args) i1 i2 hni hpv (mvT hZ w6) hy
  obtain ⟨v, vm₁, ⟨T', L', k', n'⟩, -, X', ⟨Lc, ⟨N', hQ⟩, l1, y1, z1⟩, s'⟩ := X.privateBack hx (y := y') ho (mvT hZ w1) (mvT hZ w6) hsel hpv (mvT hZ w4) hy (backOf (W := W) (Q := fun v h L => Fr n0 L ∧ Q v h) (K []) hZ w4 w3 hf hlo) (g := mkF m pc Ls (argsL.reverse ++ .ref a :: rest)) rfl (hsz.trans hml.symm) (Steps.refl _) (a := a) (by rw [eT]; exact q1) q2 (argsL := argsL) (rest := rest) hlen rfl (by show 2 * 0 + _ ≤ _; omega) (hb hbb hd) (fun _ _ => ⟨has, eT, hc, hs⟩)
  dsimp only [Pt.U, Pt.locs, Pt.cells, Pt.slots] at X' l1 y1 z1 s' hQ
  subst l1 y1 z1
  exact ⟨v, T'.heap, hQ, hB, T', _, X', rfl, Fr.app N N', hs0.trans s'⟩
end Calls
/-! a walk that resolves a String constant: the start's tables are re-based -/
def Reb (D0 D : Dyn) (h : Heap) : Prop := match D0 with
  | (p, e, s, m, args, below, meth, c, s₁, g0) => ∃ (vm' : Vm) (n : Nat), s.Since vm' n ∧ n ≤ h.size ∧ D = (p, e, s.setVm vm', m, args, below, meth, c, s₁, g0)
theorem Reb.refl (D : Dyn) (h : Heap) : Reb D D h := by
  obtain ⟨p, e, s, m, args, below, meth, c, s₁, g0⟩ := D
  exact ⟨s.vm, h.size, (State.WarmedH.refl s).since _, Nat.le_refl _, rfl⟩
theorem Reb.grow {D0 D : Dyn} (B : Reb D0 D h) (q : h.size ≤ h'.size) : Reb D0 D h' := by
  obtain ⟨p, e, s, m, args, below, meth, c, s₁, g0⟩ := D0
  obtain ⟨vm', n, h1, h2, h3⟩ := B
  exact ⟨vm', n, h1, Nat.le_trans h2 q, h3⟩
theorem ldcStr {D0 : Dyn} {text : String} {index nn : Nat} (r : Rch l Z n0 R y bytes mx rt D h k n pc Ls st) (B : Reb D0 D h) (hd : decode bytes pc = .ok (.ldc index, 2)) (w : (Jvm.Cond.stringLink y.cls index text).before a0 Z = true) (wS : ∀ a ∈ Bundle.stringAtoms, a.before a0 Z = true) (hn : 4 * text.toList.length ≤ nn) (hbig : nn ≤ 536870912) (hc : k + 2 ≤ R.cells) (hl : n + (nn + 4) ≤ R.slots) :
    ∃ (D' : Dyn) (h' : Heap) (a : Addr), Reb D0 D' h' ∧ Ext h h' ∧ Rch l Z n0 R y bytes mx rt D' h' (k + 2) (n + (nn + 4)) (pc + 2) Ls (.ref a :: st) := by
  obtain ⟨p, e, s, m, args, below, meth, c, s₁, g0⟩ := D0
  obtain ⟨vm0, n1, hS, hk, rfl⟩ := B
  obtain ⟨hB, T, locs, X, eT, N, hs0⟩ := r
  obtain ⟨hx, hbb, hml, ho, hZ, hr, hlk, hnm⟩ := hB
  obtain ⟨a, T', h', k1, X', e', E, hS', hk', hZ', ho', st'⟩ := ldcS X hx hZ ho w wS eT hS hk (g := mkF m pc Ls st) rfl (hb hbb hd) hn hbig hc hl
  exact ⟨(p, e, s.setVm T'.vm, m, args, below, meth, c, s₁, g0), h', a, ⟨T'.vm, k1, hS', hk', rfl⟩, E, ⟨hx, hbb, hml, ho', hZ', hr, hlk, hnm⟩, T', locs, X', e', N, hs0.trans (st' _ (Steps.refl _))⟩
def ConW (l : Launch) (Z : State) (n0 : Nat) (y : MethodName) (bytes : ByteArray) (mx : Nat) (rt : Option FieldType) (rm : Room) (as' : Array Value) (h : Heap) (Q : Option Value → Heap → Prop) : Prop :=
  ∀ ws : List Jvm.Cond, MetFree l y (head1 (Jvm.Cond.code y bytes mx rt :: ws) rm) (fun a U => a = as' ∧ Z.Warmed39 U.vm ∧ U.heap = h) (fun _ _ _ _ _ => True) (fun _ U o U' => ∃ v L, o = .returned v ∧ (Fr n0 L ∧ Q v U'.heap) ∧ U.Warmed39 U'.vm ∧ U.Booked U'.vm U'.heap.size ∧ U.sameButNew ({ U' with vm := U.vm } : State) L rm.cells rm.slots)
theorem ConW.enter {rm : Room} {as' : Array Value} {Q : Option Value → Heap → Prop} (hp : plainFor y = true) (ef : ∀ m, entryFrame m as' mx = mkF m 0 Ls [])
    (f : ∀ D : Dyn, Rch l Z n0 rm y bytes mx rt D h 0 0 0 Ls [] → ∃ D' v h', Reb D D' h' ∧ Don l Z n0 rm D' h' rm.cells rm.slots v ∧ Q v h') : ConW l Z n0 y bytes mx rt rm as' h Q := by
  intro ws
  refine MetFree.of_bodySF hp hisR ?_
  intro p e s m args below meth c s₁ Bd hml0 hP hK
  obtain ⟨rfl, hZ, hh⟩ := hP
  have X0 : Stand p l e rm s m args below meth c s₁ [] 0 0 := Stand.of_body Bd
  have e0 : s₁.heap = h := by rw [← hh, Bd.state]; rfl
  obtain ⟨D', v, h', ⟨vm', n1, hS, hk, rfl⟩, hD, hQ⟩ := f (p, e, s, m, args, below, meth, c, s₁, mkF m 0 Ls []) ⟨⟨Bd.exec, Bd.bytes, hml0, findClass_of_methodNamed Bd.named, hZ, Bd.returns, Bd.notSynchronized, (name_of_methodNamed Bd.named Bd.method).1⟩, s₁, [], X0, e0, Fr.nil n0, Steps.refl _⟩
  obtain ⟨T, locs, fs, X, eT, N, hs, hh', hrun, hend, hW, hsame⟩ := hD
  obtain ⟨w1, w2, w3⟩ := hS.ended hW (by rw [hh']; exact hk) hsame
  exact ⟨_, _, castTop (ef m) hs, hrun, hend, v, locs, rfl, ⟨N, hh'.symm ▸ hQ⟩, w1, w2, w3⟩
end Kit
end Jvm.Own

namespace Jvm.Own
def Ix (j : Int32) (n : Nat) : Prop := ¬ j < 0 ∧ j.toNatClampNeg = n
theorem Ix.get {j : Int32} {n : Nat} {L : List Int32} {v : Int32} (q : Ix j n) (g : L[n]? = some v) : (L.map Value.int)[j.toNatClampNeg]? = some (.int v) := by rw [q.2, List.getElem?_map, g]; rfl
theorem Ix.lt {j : Int32} {n : Nat} {L : List Int32} (q : Ix j n) (g : n < L.length) : j.toNatClampNeg < (L.map Value.int).length := by rw [q.2, List.length_map]; exact g
def I (n : Nat) : Int32 := Int32.ofNat n
def J (n : Nat) : Int32 := Int32.ofInt ((n : Int) - 1)
theorem I_toInt {n : Nat} (h : n < 1000) : (I n).toInt = n := Int32.toInt_ofNat_of_lt (by omega)
theorem J_toInt {n : Nat} (h : n < 1000) : (J n).toInt = (n : Int) - 1 := Int32.toInt_ofInt_of_le (by omega) (by omega)
theorem Ix.i {n : Nat} (h : n < 1000) : Ix (I n) n := by
  have e := I_toInt h
  refine ⟨?_, ?_⟩
  · rw [Int32.lt_iff_toInt_lt, e]; have : (0 : Int32).toInt = 0 := rfl; omega
  · unfold Int32.toNatClampNeg; omega
theorem J_succ (n : Nat) : J (n + 1) = I n := by
  show Int32.ofInt _ = Int32.ofNat n
  rw [show ((n + 1 : Nat) : Int) - 1 = (n : Int) by omega, Int32.ofInt_eq_ofNat]
theorem I_add (n : Nat) : I n + 1 = I (n + 1) := by show Int32.ofNat n + Int32.ofNat 1 = _; rw [← Int32.ofNat_add]; rfl
theorem I_adds (n m : Nat) : I n + I m = I (n + m) := by show Int32.ofNat n + Int32.ofNat m = _; rw [← Int32.ofNat_add]; rfl
theorem J_add (n : Nat) : J n + 1 = J (n + 1) := by
  show Int32.ofInt _ + Int32.ofInt 1 = Int32.ofInt _
  rw [← Int32.ofInt_add]; congr 1; omega
theorem Ix.j {n : Nat} (h : n < 1000) : Ix (J (n + 1)) n := by rw [J_succ]; exact Ix.i h
theorem I_lt {a b : Nat} (ha : a < 1000) (hb : b < 1000) : I a < I b ↔ a < b := by rw [Int32.lt_iff_toInt_lt, I_toInt ha, I_toInt hb]; omega
theorem J_neg {a : Nat} (ha : a < 1000) : J a < 0 ↔ a = 0 := by rw [Int32.lt_iff_toInt_lt, J_toInt ha]; have : (0 : Int32).toInt = 0 := rfl; omega
theorem I_eq0 {a : Nat} (ha : a < 1000) : I a = 0 ↔ a = 0 := by rw [← Int32.toInt_inj, I_toInt ha]; have : (0 : Int32).toInt = 0 := rfl; omega
theorem I_div {a b : Nat} (ha : a < 1000) (hb : b < 1000) : I a / I b = I (a / b) := by
  rw [← Int32.toInt_inj, Int32.toInt_div, I_toInt ha, I_toInt hb, I_toInt (Nat.lt_of_le_of_lt (Nat.div_le_self a b) ha), ← Int.ofNat_tdiv]
  have : a / b < 1000 := Nat.lt_of_le_of_lt (Nat.div_le_self a b) ha
  generalize a / b = c at this ⊢
  rw [Int.bmod_eq_of_le (by omega) (by omega)]
theorem getM {f : Nat → Int32} {L : List Nat} {n v : Nat} (g : L[n]? = some v) : (L.map f)[n]? = some (f v) := by rw [List.getElem?_map, g]; rfl
theorem ltM {f : Nat → Int32} {L : List Nat} {n : Nat} (g : n < L.length) : n < (L.map f).length := by rw [List.length_map]; exact g
theorem getlt {L : List Nat} {n v : Nat} (g : L[n]? = some v) : n < L.length := (List.getElem?_eq_some_iff.mp g).1
theorem repI {z : Int32} {n : Nat} (q : Ix z n) : List.replicate z.toNatClampNeg (Value.int 0) = ((List.replicate n 0).map I).map Value.int := by rw [q.2, List.map_replicate, List.map_replicate]; rfl
theorem lenM {L : List Nat} {f : Nat → Int32} : ((L.map f).map Value.int).length.toInt32 = I L.length := by rw [List.length_map, List.length_map]; rfl
theorem I_ne {S : Nat} (h : S < 6) : ¬ (I S = I (S + 1)) := by rw [← Int32.toInt_inj, I_toInt (by omega), I_toInt (by omega)]; omega
theorem take_rep {S : Nat} (h : S < 6) (L : List Int32) : (L.take (I S).toNatClampNeg ++ (((List.replicate S 0).map I).drop (I S).toNatClampNeg)).map Value.int = (L.take S).map Value.int := by
  rw [(Ix.i (by omega)).2, List.drop_of_length_le (by rw [List.length_map, List.length_replicate]; exact Nat.le_refl _), List.append_nil]
theorem Ix.i1 {n : Nat} (h : n + 1 < 1000) : Ix (I n + 1) (n + 1) := by rw [I_add]; exact Ix.i h
theorem takeM {L : List Nat} {S : Nat} : ((L.map I).take S).map Value.int = ((L.take S).map I).map Value.int := by simp only [List.map_take]
theorem fillM {n : Nat} : (List.replicate ((List.replicate n 0).map I).length (-1 : Int32)).map Value.int = ((List.replicate n 0).map J).map Value.int := by
  rw [List.length_map, List.length_replicate, List.map_replicate (f := J)]; rfl
/-! the plain model of the tables' reckoning, in naturals: an entry t stands for t - 1, so does a distance -/
def m24 : List Nat → List Nat → Option (List Nat)
  | [], off => some off
  | 0 :: r, off => m24 r off
  | (t + 1) :: r, off => match off[t + 1]? with | none => none | some o => m24 r (off.set (t + 1) (o + 1))
def m60 : Nat → Nat → List Nat → Option (List Nat)
  | 0, _, off => some off
  | f + 1, i, off => match off[i + 1]?, off[i]? with | some a, some b => m60 f (i + 1) (off.set (i + 1) (a + b)) | _, _ => none
def m98 (cols : Nat) : List Nat → Nat → List Nat → List Nat → Option (List Nat)
  | [], _, _, fr => some fr
  | 0 :: r, i, fi, fr => m98 cols r (i + 1) fi fr
  | (t + 1) :: r, i, fi, fr => match fi[t]? with | none => none | some p => if p < fr.length then m98 cols r (i + 1) (fi.set t (p + 1)) (fr.set p (i / cols)) else none
def m171 : List Nat → Nat → List Nat → List Nat → Nat → Option (List Nat × List Nat × Nat)
  | [], _, d, q, t => some (d, q, t)
  | 0 :: r, i, d, q, t => m171 r (i + 1) d q t
  | (_ + 1) :: r, i, d, q, t => if i < d.length ∧ t < q.length then m171 r (i + 1) (d.set i 1) (q.set t i) (t + 1) else none
def m232 (fr : List Nat) (ds : Nat) : Nat → Nat → List Nat → List Nat → Nat → Option (List Nat × List Nat × Nat)
  | 0, _, d, q, t => some (d, q, t)
  | f + 1, k, d, q, t => match fr[k]? with
    | none => none
    | some p => match d[p]? with
      | none => none
      | some 0 => if t < q.length then m232 fr ds f (k + 1) (d.set p (ds + 1)) (q.set t p) (t + 1) else none
      | some (e + 1) => if e < 100 then m232 fr ds f (k + 1) d q t else none
def m212 (off fr : List Nat) : Nat → Nat → List Nat → List Nat → Nat → Option (List Nat)
  | 0, _, _, _, _ => none
  | f + 1, hd, d, q, t => if hd < t then match q[hd]? with
      | none => none
      | some s => match off[s]?, off[s + 1]?, d[s]? with
        | some o1, some o2, some ds => if o1 ≤ o2 ∧ o2 < 100 ∧ ds < 100 ∧ ds ≠ 0 then match m232 fr ds (o2 - o1) o1 d q t with
          | none => none
          | some (d', q', t') => m212 off fr f (hd + 1) d' q' t' else none
        | _, _, _ => none
    else some d
def mD (cols : Nat) (T A : List Nat) : Option (List Nat) :=
  match m24 T (List.replicate (A.length + 1) 0) with
  | none => none
  | some o1 => match m60 A.length 0 o1 with
    | none => none
    | some o2 => if o2.length = A.length + 1 then match o2[A.length]? with
      | none => none
      | some tot => if tot < 7 then match m98 cols T 0 (o2.take A.length) (List.replicate tot 0) with
        | none => none
        | some fr => match m171 A 0 (List.replicate A.length 0) (List.replicate A.length 0) 0 with
          | none => none
          | some (d, q, t) => if d.length < 100 ∧ q.length < 100 ∧ t ≤ q.length then m212 o2 fr 8 0 d q t else none
        else none
      else none
theorem mD_some {cols : Nat} {T A d : List Nat} (h : mD cols T A = some d) : ∃ o1 o2 tot fr d1 q1 t1, m24 T (List.replicate (A.length + 1) 0) = some o1 ∧ m60 A.length 0 o1 = some o2 ∧ o2.length = A.length + 1 ∧ o2[A.length]? = some tot ∧ tot < 7 ∧ m98 cols T 0 (o2.take A.length) (List.replicate tot 0) = some fr ∧ m171 A 0 (List.replicate A.length 0) (List.replicate A.length 0) 0 = some (d1, q1, t1) ∧ (d1.length < 100 ∧ q1.length < 100 ∧ t1 ≤ q1.length) ∧ m212 o2 fr 8 0 d1 q1 t1 = some d := by
  unfold mD at h
  split at h
  · cases h
  · rename_i o1 h1
    split at h
    · cases h
    · rename_i o2 h2
      split at h
      · rename_i h3
        split at h
        · cases h
        · rename_i tot h4
          split at h
          · rename_i h5
            split at h
            · cases h
            · rename_i fr h6
              split at h
              · cases h
              · rename_i d1 q1 t1 h7
                split at h
                · rename_i h8; exact ⟨o1, o2, tot, fr, d1, q1, t1, h1, h2, h3, h4, h5, h6, h7, h8, h⟩
                · cases h
          · cases h
      · cases h
end Jvm.Own
namespace Jvm.Own
def allN (b : Nat) : Nat → (List Nat → Bool) → Bool
  | 0, f => f []
  | n + 1, f => (List.range b).all fun x => allN b n fun r => f (x :: r)
theorem allN_spec {b n : Nat} {f : List Nat → Bool} (h : allN b n f = true) (L : List Nat) (hl : L.length = n) (hb : ∀ x ∈ L, x < b) : f L = true := by
  induction n generalizing f L with
  | zero => cases L with
    | nil => exact h
    | cons _ _ => cases hl
  | succ n ih => cases L with
    | nil => cases hl
    | cons x L =>
      have q := List.all_eq_true.mp h x (List.mem_range.mpr (hb x (by simp)))
      exact ih q L (by simpa using hl) (fun y hy => hb y (by simp [hy]))
theorem and3 (z : Int32) : ∃ k, k < 4 ∧ z &&& 3 = I k := by
  refine ⟨z.toBitVec.toNat % 4, Nat.mod_lt _ (by decide), ?_⟩
  apply Int32.toBitVec_inj.mp
  apply BitVec.eq_of_toNat_eq
  have e : (z &&& 3).toBitVec = z.toBitVec &&& 3#32 := rfl
  have e2 : (I (z.toBitVec.toNat % 4)).toBitVec = BitVec.ofNat 32 (z.toBitVec.toNat % 4) := rfl
  have e3 : (3#32).toNat = 2 ^ 2 - 1 := rfl
  rw [e, e2, BitVec.toNat_and, e3, Nat.and_two_pow_sub_one_eq_mod, BitVec.toNat_ofNat]
  omega
theorem bit01 {m : Int32} (h : m = 0 ∨ m = 1) : ∃ k, k < 2 ∧ Jvm.RoadKit.nar .boolean m = I k := by
  rcases h with rfl | rfl
  · exact ⟨0, by decide, by decide⟩
  · exact ⟨1, by decide, by decide⟩
theorem ite01 {c : Prop} [Decidable c] {m : Int32} (h : m = if c then 0 else 1) : m = 0 ∨ m = 1 := by
  by_cases q : c
  · rw [if_pos q] at h; exact Or.inl h
  · rw [if_neg q] at h; exact Or.inr h
end Jvm.Own
namespace Jvm.Pilot.@@N@@
open Jvm Jvm.ClassFile Sem Op Lib Jvm.Free Jvm.Stand Jvm.LawKit Jvm.RoadKit Bundle Jvm.Pilot.@@N@@.Jvm.D

theorem own_cell3 (z : Int32) : ∃ t, t < 4 ∧ ((z &&& (3 : Int32)) % ((3 : Int32) + (1 : Int32))) - (1 : Int32) = Own.J t := by
  obtain ⟨k, hk, e⟩ := Own.and3 z
  rw [e]
  have q : k = 0 ∨ k = 1 ∨ k = 2 ∨ k = 3 := by omega
  rcases q with rfl | rfl | rfl | rfl
  · exact ⟨0, by decide, by decide⟩
  · exact ⟨1, by decide, by decide⟩
  · exact ⟨2, by decide, by decide⟩
  · exact ⟨3, by decide, by decide⟩
theorem own_cell2 (z : Int32) : ∃ t, t < 3 ∧ ((z &&& (3 : Int32)) % ((2 : Int32) + (1 : Int32))) - (1 : Int32) = Own.J t := by
  obtain ⟨k, hk, e⟩ := Own.and3 z
  rw [e]
  have q : k = 0 ∨ k = 1 ∨ k = 2 ∨ k = 3 := by omega
  rcases q with rfl | rfl | rfl | rfl
  · exact ⟨0, by decide, by decide⟩
  · exact ⟨1, by decide, by decide⟩
  · exact ⟨2, by decide, by decide⟩
  · exact ⟨0, by decide, by decide⟩
theorem own_c00 : (Own.allN 4 4 fun r => Own.allN 2 3 fun A => (Own.mD 2 (0 :: 0 :: r) A).isSome) = true := by decide +kernel
theorem own_c01 : (Own.allN 4 4 fun r => Own.allN 2 3 fun A => (Own.mD 2 (0 :: 1 :: r) A).isSome) = true := by decide +kernel
theorem own_c02 : (Own.allN 4 4 fun r => Own.allN 2 3 fun A => (Own.mD 2 (0 :: 2 :: r) A).isSome) = true := by decide +kernel
theorem own_c03 : (Own.allN 4 4 fun r => Own.allN 2 3 fun A => (Own.mD 2 (0 :: 3 :: r) A).isSome) = true := by decide +kernel
theorem own_c10 : (Own.allN 4 4 fun r => Own.allN 2 3 fun A => (Own.mD 2 (1 :: 0 :: r) A).isSome) = true := by decide +kernel
theorem own_c11 : (Own.allN 4 4 fun r => Own.allN 2 3 fun A => (Own.mD 2 (1 :: 1 :: r) A).isSome) = true := by decide +kernel
theorem own_c12 : (Own.allN 4 4 fun r => Own.allN 2 3 fun A => (Own.mD 2 (1 :: 2 :: r) A).isSome) = true := by decide +kernel
theorem own_c13 : (Own.allN 4 4 fun r => Own.allN 2 3 fun A => (Own.mD 2 (1 :: 3 :: r) A).isSome) = true := by decide +kernel
theorem own_c20 : (Own.allN 4 4 fun r => Own.allN 2 3 fun A => (Own.mD 2 (2 :: 0 :: r) A).isSome) = true := by decide +kernel
theorem own_c21 : (Own.allN 4 4 fun r => Own.allN 2 3 fun A => (Own.mD 2 (2 :: 1 :: r) A).isSome) = true := by decide +kernel
theorem own_c22 : (Own.allN 4 4 fun r => Own.allN 2 3 fun A => (Own.mD 2 (2 :: 2 :: r) A).isSome) = true := by decide +kernel
theorem own_c23 : (Own.allN 4 4 fun r => Own.allN 2 3 fun A => (Own.mD 2 (2 :: 3 :: r) A).isSome) = true := by decide +kernel
theorem own_c30 : (Own.allN 4 4 fun r => Own.allN 2 3 fun A => (Own.mD 2 (3 :: 0 :: r) A).isSome) = true := by decide +kernel
theorem own_c31 : (Own.allN 4 4 fun r => Own.allN 2 3 fun A => (Own.mD 2 (3 :: 1 :: r) A).isSome) = true := by decide +kernel
theorem own_c32 : (Own.allN 4 4 fun r => Own.allN 2 3 fun A => (Own.mD 2 (3 :: 2 :: r) A).isSome) = true := by decide +kernel
theorem own_c33 : (Own.allN 4 4 fun r => Own.allN 2 3 fun A => (Own.mD 2 (3 :: 3 :: r) A).isSome) = true := by decide +kernel
theorem own_chk3 (x y : Nat) (hx : x < 4) (hy : y < 4) : (Own.allN 4 4 fun r => Own.allN 2 3 fun A => (Own.mD 2 (x :: y :: r) A).isSome) = true := by
  have ex : x = 0 ∨ x = 1 ∨ x = 2 ∨ x = 3 := by omega
  have ey : y = 0 ∨ y = 1 ∨ y = 2 ∨ y = 3 := by omega
  rcases ex with rfl | rfl | rfl | rfl <;> rcases ey with rfl | rfl | rfl | rfl
  · exact own_c00
  · exact own_c01
  · exact own_c02
  · exact own_c03
  · exact own_c10
  · exact own_c11
  · exact own_c12
  · exact own_c13
  · exact own_c20
  · exact own_c21
  · exact own_c22
  · exact own_c23
  · exact own_c30
  · exact own_c31
  · exact own_c32
  · exact own_c33
theorem own_chk2 : (Own.allN 3 6 fun T => Own.allN 2 2 fun A => (Own.mD 3 T A).isSome) = true := by decide +kernel
theorem own_safe3 (T A : List Nat) (h1 : T.length = 6) (h2 : ∀ t ∈ T, t < 4) (h3 : A.length = 3) (h4 : ∀ t ∈ A, t < 2) : ∃ d, Own.mD 2 T A = some d := by
  match T, h1, h2 with
  | x :: y :: r, h1, h2 => exact Option.isSome_iff_exists.mp (Own.allN_spec (Own.allN_spec (f := fun r => Own.allN 2 3 fun A => (Own.mD 2 (x :: y :: r) A).isSome) (own_chk3 x y (h2 x (by simp)) (h2 y (by simp))) r (by simpa using h1) (fun z hz => h2 z (by simp [hz]))) A h3 h4)
theorem own_safe2 (T A : List Nat) (h1 : T.length = 6) (h2 : ∀ t ∈ T, t < 3) (h3 : A.length = 2) (h4 : ∀ t ∈ A, t < 2) : ∃ d, Own.mD 3 T A = some d := Option.isSome_iff_exists.mp (Own.allN_spec (Own.allN_spec own_chk2 T h1 h2) A h3 h4)

theorem d7_0 : decode jdk_65_method_103_code 0 = .ok (.iconst 0, 1) := by decide +kernel
theorem d7_1 : decode jdk_65_method_103_code 1 = .ok (.istore_n 2, 1) := by decide +kernel
theorem d7_2 : decode jdk_65_method_103_code 2 = .ok (.aload_n 0, 1) := by decide +kernel
theorem d7_3 : decode jdk_65_method_103_code 3 = .ok (.arraylength, 1) := by decide +kernel
theorem d7_4 : decode jdk_65_method_103_code 4 = .ok (.istore_n 3, 1) := by decide +kernel
theorem d7_5 : decode jdk_65_method_103_code 5 = .ok (.iload_n 2, 1) := by decide +kernel
theorem d7_6 : decode jdk_65_method_103_code 6 = .ok (.iload_n 3, 1) := by decide +kernel
theorem d7_7 : decode jdk_65_method_103_code 7 = .ok (.if_icmp .ge 13, 3) := by decide +kernel
theorem d7_10 : decode jdk_65_method_103_code 10 = .ok (.aload_n 0, 1) := by decide +kernel
theorem d7_11 : decode jdk_65_method_103_code 11 = .ok (.iload_n 2, 1) := by decide +kernel
theorem d7_12 : decode jdk_65_method_103_code 12 = .ok (.iload_n 1, 1) := by decide +kernel
theorem d7_13 : decode jdk_65_method_103_code 13 = .ok (.iastore, 1) := by decide +kernel
theorem d7_14 : decode jdk_65_method_103_code 14 = .ok (.iinc 2 1, 3) := by decide +kernel
theorem d7_17 : decode jdk_65_method_103_code 17 = .ok (.goto (-12), 3) := by decide +kernel
theorem d7_20 : decode jdk_65_method_103_code 20 = .ok (.return_, 1) := by decide +kernel
theorem pn_7 : plainFor (⟨"java/util/Arrays", "fill", "([II)V"⟩ : MethodName) = true := plainFor_of_name (by first | (simp [plainName, overriddenIn, x]; done) | decide +kernel)
theorem ef_7 (a : Addr) (p1 : Int32) (m : MethodId) : entryFrame m #[(.ref a), (.int p1)] 4 = mkF m 0 #[.val (.ref a), .val (.int p1), .unset, .unset] [] := by first | (simp [entryFrame, mkF, argsToLocals, Value.category, maxLocals]; done) | rfl
abbrev R7 : Room := ({ frames := 0, cells := 0, slots := 0, locals := 0 } : Room)
abbrev A7 (l : Launch) (Z : State) (n0 : Nat) (D : Own.Dyn) := Own.Rch l Z n0 R7 (⟨"java/util/Arrays", "fill", "([II)V"⟩ : MethodName) jdk_65_method_103_code 4 none D
def Rf (l : Launch) (Z : State) (n0 : Nat) (D : Own.Dyn) (hh : Heap) (a : Addr) (p1 : Int32) (x3 : Int32) (x2 : Int32) (L : List Int32) (h : Heap) : Prop := n0 ≤ h.size ∧ Keep hh h [a] ∧ Own.VA Z h a .int (L.map Value.int) ∧ A7 l Z n0 D h 0 0 5 #[.val (.ref a), .val (.int p1), .val (.int x2), .val (.int x3)] []
set_option maxRecDepth 65536 in
set_option maxHeartbeats 40000000 in
theorem lf (l : Launch) (Z : State) (a0 : Array Value) (hw : ∀ d ∈ tables_1, d.before a0 Z = true) (n0 : Nat) (D : Own.Dyn) (hh : Heap) (a : Addr) (p1 : Int32) (x3 : Int32) (x2 : Int32) (L : List Int32) (h : Heap) (ge_a : n0 ≤ a) (br7 : x2 < x3) (n13 : Nat) (q13 : Own.Ix x2 n13) (g13 : n13 < L.length) (hR : Rf l Z n0 D hh a p1 x3 x2 L h) :
    ∃ (h' : Heap), Rf l Z n0 D hh a p1 x3 ((x2 + (1 : Int32))) ((L.set n13 p1)) h' := by
  obtain ⟨Zs, K, V_a, r⟩ := hR
  replace r : A7 l Z n0 D h 0 0 6 #[.val (.ref a), .val (.int p1), .val (.int x2), .val (.int x3)] [(.int x2)] := Own.iloadN r d7_5 rfl
  replace r : A7 l Z n0 D h 0 0 7 #[.val (.ref a), .val (.int p1), .val (.int x2), .val (.int x3)] [(.int x3), (.int x2)] := Own.iloadN r d7_6 rfl
  replace r : A7 l Z n0 D h 0 0 10 #[.val (.ref a), .val (.int p1), .val (.int x2), .val (.int x3)] [] := Own.icmpNo r d7_7 (tlt br7).2.1
  replace r : A7 l Z n0 D h 0 0 11 #[.val (.ref a), .val (.int p1), .val (.int x2), .val (.int x3)] [(.ref a)] := Own.aloadN r d7_10 rfl rfl
  replace r : A7 l Z n0 D h 0 0 12 #[.val (.ref a), .val (.int p1), .val (.int x2), .val (.int x3)] [(.int x2), (.ref a)] := Own.iloadN r d7_11 rfl
  replace r : A7 l Z n0 D h 0 0 13 #[.val (.ref a), .val (.int p1), .val (.int x2), .val (.int x3)] [(.int p1), (.int x2), (.ref a)] := Own.iloadN r d7_12 rfl
  obtain ⟨h2, ⟨W1, V_a⟩, r⟩ := Own.iastore r d7_13 V_a q13.1 (Own.Ix.lt q13 g13) ge_a
  replace r : A7 l Z n0 D h2 0 0 14 #[.val (.ref a), .val (.int p1), .val (.int x2), .val (.int x3)] [] := r
  replace Zs := Nat.le_trans Zs (Nat.le_of_eq W1.size.symm)
  replace K := K.wr W1 (Or.inl (by simp))
  replace V_a : Own.VA Z h2 a .int ((L.set n13 p1).map Value.int) := by rw [List.map_set, ← q13.2]; exact V_a
  replace r : A7 l Z n0 D h2 0 0 17 #[.val (.ref a), .val (.int p1), .val (.int (x2 + (1 : Int32))), .val (.int x3)] [] := Own.iinc r d7_14 rfl rfl rfl
  replace r : A7 l Z n0 D h2 0 0 5 #[.val (.ref a), .val (.int p1), .val (.int (x2 + (1 : Int32))), .val (.int x3)] [] := Own.goto r d7_17 (by decide) (by decide)
  exact ⟨_, ⟨Zs, K, V_a, r⟩⟩
theorem own_lf (l : Launch) (Z : State) (a0 : Array Value) (hw : ∀ d ∈ tables_1, d.before a0 Z = true) (n0 : Nat) (D : Own.Dyn) (hh : Heap) (a : Addr) (p1 : Int32) (x3 : Int32) (ge_a : n0 ≤ a) (f : Nat) (i : Nat) (L : List Int32) (hL : i + f = L.length) (hl : L.length < 1000) (e3 : x3 = Own.I L.length) (hp : ∀ j, j < i → L[j]? = some p1) (h : Heap) (hR : Rf l Z n0 D hh a p1 x3 (Own.I i) L h) :
    ∃ h', Rf l Z n0 D hh a p1 x3 (Own.I L.length) (List.replicate L.length p1) h' := by
  induction f generalizing i L h with
  | zero =>
    have e : L = List.replicate L.length p1 := by
      apply List.ext_getElem?
      intro j
      by_cases hj : j < L.length
      · rw [hp j (by omega), List.getElem?_replicate, if_pos hj]
      · rw [List.getElem?_eq_none (by omega), List.getElem?_eq_none (by rw [List.length_replicate]; omega)]
    rw [← e, ← hL]; exact ⟨h, hR⟩
  | succ f ih =>
    obtain ⟨h', hR'⟩ := lf l Z a0 hw n0 D hh a p1 x3 (Own.I i) L h ge_a (by rw [e3]; simpa using (Own.I_lt (by omega) hl).mpr (by omega)) i (Own.Ix.i (by omega)) (by omega) hR
    rw [Own.I_add] at hR'
    have q := ih (i + 1) (L.set i p1) (by rw [List.length_set]; omega) (by rw [List.length_set]; omega) (by rw [List.length_set]; exact e3) (fun j hj => by
      rw [List.getElem?_set]
      by_cases e : i = j
      · rw [if_pos e, if_pos (by omega)]
      · rw [if_neg e]; exact hp j (by omega)) h' hR'
    rw [List.length_set] at q; exact q
set_option maxRecDepth 65536 in
set_option maxHeartbeats 40000000 in
theorem c7 (l : Launch) (Z : State) (a0 : Array Value) (hw : ∀ d ∈ tables_1, d.before a0 Z = true) (n0 : Nat) (h : Heap) (Zs : n0 ≤ h.size) (a : Addr) (p1 : Int32) (L : List Int32) (V_a : Own.VA Z h a .int (L.map Value.int)) (ge_a : n0 ≤ a) (hL : L.length < 1000) :
    Own.Con l Z n0 (⟨"java/util/Arrays", "fill", "([II)V"⟩ : MethodName) jdk_65_method_103_code 4 none R7 #[(.ref a), (.int p1)] h (fun v h' => v = none ∧ Keep h h' [a] ∧ Own.VA Z h' a .int ((List.replicate L.length p1).map Value.int)) := by
  refine Own.Con.enter pn_7 (ef_7 a p1) fun D r => ?_
  have K : Keep h h [a] := Keep.refl _ _
  replace r : A7 l Z n0 D h 0 0 1 #[.val (.ref a), .val (.int p1), .unset, .unset] [(.int (0 : Int32))] := Own.iconst r d7_0 rfl
  replace r : A7 l Z n0 D h 0 0 2 #[.val (.ref a), .val (.int p1), .val (.int (0 : Int32)), .unset] [] := Own.istoreN r d7_1 rfl
  replace r : A7 l Z n0 D h 0 0 3 #[.val (.ref a), .val (.int p1), .val (.int (0 : Int32)), .unset] [(.ref a)] := Own.aloadN r d7_2 rfl rfl
  replace r : A7 l Z n0 D h 0 0 4 #[.val (.ref a), .val (.int p1), .val (.int (0 : Int32)), .unset] [(.int (Own.I L.length))] := Own.arrlen r d7_3 V_a (by rw [List.length_map]; rfl)
  replace r : A7 l Z n0 D h 0 0 5 #[.val (.ref a), .val (.int p1), .val (.int (0 : Int32)), .val (.int (Own.I L.length))] [] := Own.istoreN r d7_4 rfl
  obtain ⟨h1, hR⟩ := own_lf l Z a0 hw n0 D h a p1 (Own.I L.length) ge_a L.length 0 L (by omega) hL rfl (fun j hj => absurd hj (Nat.not_lt_zero j)) _ ⟨Zs, K, V_a, r⟩
  obtain ⟨Zs, K, V_a, r⟩ := hR
  replace r : A7 l Z n0 D h1 0 0 6 #[.val (.ref a), .val (.int p1), .val (.int (Own.I L.length)), .val (.int (Own.I L.length))] [(.int (Own.I L.length))] := Own.iloadN r d7_5 rfl
  replace r : A7 l Z n0 D h1 0 0 7 #[.val (.ref a), .val (.int p1), .val (.int (Own.I L.length)), .val (.int (Own.I L.length))] [(.int (Own.I L.length)), (.int (Own.I L.length))] := Own.iloadN r d7_6 rfl
  replace r : A7 l Z n0 D h1 0 0 20 #[.val (.ref a), .val (.int p1), .val (.int (Own.I L.length)), .val (.int (Own.I L.length))] [] := Own.icmpYes r d7_7 (flt (fun q => Int32.lt_irrefl q)).2.1 (by decide) (by decide)
  exact ⟨_, _, (Own.Rch.ret0 r d7_20).more (by decide) (by decide), rfl, K, V_a⟩
theorem d6_0 : decode jdk_29_method_69_code 0 = .ok (.iload_n 0, 1) := by decide +kernel
theorem d6_1 : decode jdk_29_method_69_code 1 = .ok (.iload_n 1, 1) := by decide +kernel
theorem d6_2 : decode jdk_29_method_69_code 2 = .ok (.if_icmp .gt 7, 3) := by decide +kernel
theorem d6_5 : decode jdk_29_method_69_code 5 = .ok (.iload_n 0, 1) := by decide +kernel
theorem d6_6 : decode jdk_29_method_69_code 6 = .ok (.goto 4, 3) := by decide +kernel
theorem d6_9 : decode jdk_29_method_69_code 9 = .ok (.iload_n 1, 1) := by decide +kernel
theorem d6_10 : decode jdk_29_method_69_code 10 = .ok (.ireturn, 1) := by decide +kernel
theorem pn_6 : plainFor (⟨"java/lang/Math", "min", "(II)I"⟩ : MethodName) = true := Jvm.Free.JP.mathPlain rfl (by decide +kernel)
theorem ef_6 (p0 : Int32) (p1 : Int32) (m : MethodId) : entryFrame m #[(.int p0), (.int p1)] 2 = mkF m 0 #[.val (.int p0), .val (.int p1)] [] := by first | (simp [entryFrame, mkF, argsToLocals, Value.category, maxLocals]; done) | rfl
abbrev R6 : Room := ({ frames := 0, cells := 0, slots := 0, locals := 0 } : Room)
abbrev A6 (l : Launch) (Z : State) (n0 : Nat) (D : Own.Dyn) := Own.Rch l Z n0 R6 (⟨"java/lang/Math", "min", "(II)I"⟩ : MethodName) jdk_29_method_69_code 2 (some .int) D
def S6 (p0 : Int32) (p1 : Int32) (w : Int32) : Prop := ∃ m1 : Int32, m1 = (if p1 < p0 then p1 else p0) ∧ w = m1
set_option maxRecDepth 65536 in
set_option maxHeartbeats 40000000 in
theorem c6 (l : Launch) (Z : State) (a0 : Array Value) (hw : ∀ d ∈ tables_1, d.before a0 Z = true) (n0 : Nat) (h : Heap) (Zs : n0 ≤ h.size) (p0 : Int32) (p1 : Int32)  :
    Own.Con l Z n0 (⟨"java/lang/Math", "min", "(II)I"⟩ : MethodName) jdk_29_method_69_code 2 (some .int) R6 #[(.int p0), (.int p1)] h (fun v h' => h = h' ∧ ∃ w : Int32, v = some (.int w) ∧ S6 p0 p1 w) := by
  refine Own.Con.enter pn_6 (ef_6 p0 p1) fun D r => ?_
  replace r : A6 l Z n0 D h 0 0 1 #[.val (.int p0), .val (.int p1)] [(.int p0)] := Own.iloadN r d6_0 rfl
  replace r : A6 l Z n0 D h 0 0 2 #[.val (.int p0), .val (.int p1)] [(.int p1), (.int p0)] := Own.iloadN r d6_1 rfl
  obtain ⟨m1, e_m1, r⟩ : ∃ (m1 : Int32), m1 = (if p1 < p0 then p1 else p0) ∧ A6 l Z n0 D h 0 0 10 #[.val (.int p0), .val (.int p1)] [(.int m1)] := by
    by_cases br2 : p1 < p0
    · skip
      replace r : A6 l Z n0 D h 0 0 9 #[.val (.int p0), .val (.int p1)] [] := Own.icmpYes r d6_2 (tlt br2).2.2.1 (by decide) (by decide)
      replace r : A6 l Z n0 D h 0 0 10 #[.val (.int p0), .val (.int p1)] [(.int p1)] := Own.iloadN r d6_9 rfl
      exact ⟨_, by rw [if_pos br2], r⟩
    · skip
      replace r : A6 l Z n0 D h 0 0 5 #[.val (.int p0), .val (.int p1)] [] := Own.icmpNo r d6_2 (flt br2).2.2.1
      replace r : A6 l Z n0 D h 0 0 6 #[.val (.int p0), .val (.int p1)] [(.int p0)] := Own.iloadN r d6_5 rfl
      replace r : A6 l Z n0 D h 0 0 10 #[.val (.int p0), .val (.int p1)] [(.int p0)] := Own.goto r d6_6 (by decide) (by decide)
      exact ⟨_, by rw [if_neg br2], r⟩
  exact ⟨_, _, (Own.Rch.retI r d6_10).more (by decide) (by decide), rfl, _, rfl, ⟨m1, e_m1, rfl⟩⟩
theorem own_min {S : Nat} (hS : S < 6) {w : Int32} (e : S6 (Own.I (S + 1)) (Own.I S) w) : w = Own.I S := by obtain ⟨m1, e1, rfl⟩ := e; rw [e1, if_pos ((Own.I_lt (by omega) (by omega)).mpr (by omega))]
theorem d5_0 : decode jdk_65_method_123_code 0 = .ok (.iload_n 1, 1) := by decide +kernel
theorem d5_1 : decode jdk_65_method_123_code 1 = .ok (.aload_n 0, 1) := by decide +kernel
theorem d5_2 : decode jdk_65_method_123_code 2 = .ok (.arraylength, 1) := by decide +kernel
theorem d5_3 : decode jdk_65_method_123_code 3 = .ok (.if_icmp .ne 11, 3) := by decide +kernel
theorem d5_14 : decode jdk_65_method_123_code 14 = .ok (.iload_n 1, 1) := by decide +kernel
theorem d5_15 : decode jdk_65_method_123_code 15 = .ok (.newarray .int, 2) := by decide +kernel
theorem d5_17 : decode jdk_65_method_123_code 17 = .ok (.astore_n 2, 1) := by decide +kernel
theorem d5_18 : decode jdk_65_method_123_code 18 = .ok (.aload_n 0, 1) := by decide +kernel
theorem d5_19 : decode jdk_65_method_123_code 19 = .ok (.iconst 0, 1) := by decide +kernel
theorem d5_20 : decode jdk_65_method_123_code 20 = .ok (.aload_n 2, 1) := by decide +kernel
theorem d5_21 : decode jdk_65_method_123_code 21 = .ok (.iconst 0, 1) := by decide +kernel
theorem d5_22 : decode jdk_65_method_123_code 22 = .ok (.aload_n 0, 1) := by decide +kernel
theorem d5_23 : decode jdk_65_method_123_code 23 = .ok (.arraylength, 1) := by decide +kernel
theorem d5_24 : decode jdk_65_method_123_code 24 = .ok (.iload_n 1, 1) := by decide +kernel
theorem d5_25 : decode jdk_65_method_123_code 25 = .ok (.invokestatic 304, 3) := by decide +kernel
theorem d5_28 : decode jdk_65_method_123_code 28 = .ok (.invokestatic 150, 3) := by decide +kernel
theorem d5_31 : decode jdk_65_method_123_code 31 = .ok (.aload_n 2, 1) := by decide +kernel
theorem d5_32 : decode jdk_65_method_123_code 32 = .ok (.areturn, 1) := by decide +kernel
theorem pd_5_0 : parseMethodDescriptor "(II)I" = some ⟨[.int, .int], some .int⟩ := by decide +kernel
theorem pn_5 : plainFor (⟨"java/util/Arrays", "copyOf", "([II)[I"⟩ : MethodName) = true := plainFor_of_name (by first | (simp [plainName, overriddenIn, x]; done) | decide +kernel)
theorem ef_5 (a : Addr) (p1 : Int32) (m : MethodId) : entryFrame m #[(.ref a), (.int p1)] 3 = mkF m 0 #[.val (.ref a), .val (.int p1), .unset] [] := by first | (simp [entryFrame, mkF, argsToLocals, Value.category, maxLocals]; done) | rfl
abbrev R5 : Room := ({ frames := 1, cells := 1, slots := 6, locals := 18 } : Room)
abbrev A5 (l : Launch) (Z : State) (n0 : Nat) (D : Own.Dyn) := Own.Rch l Z n0 R5 (⟨"java/util/Arrays", "copyOf", "([II)[I"⟩ : MethodName) jdk_65_method_123_code 3 (some (.array .int)) D
set_option maxRecDepth 65536 in
set_option maxHeartbeats 40000000 in
theorem c5 (l : Launch) (Z : State) (a0 : Array Value) (hw : ∀ d ∈ tables_1, d.before a0 Z = true) (n0 : Nat) (h : Heap) (Zs : n0 ≤ h.size) (a : Addr) (p1 : Int32) (S : Nat) (L : List Int32) (V_a : Own.VA Z h a .int (L.map Value.int)) (e1 : p1 = Own.I S) (hL : L.length = S + 1) (hS : S < 6) :
    Own.Con l Z n0 (⟨"java/util/Arrays", "copyOf", "([II)[I"⟩ : MethodName) jdk_65_method_123_code 3 (some (.array .int)) R5 #[(.ref a), (.int p1)] h (fun v h' => ∃ b, v = some (.ref b) ∧ h.size ≤ b ∧ Keep h h' [] ∧ Own.VA Z h' b .int ((L.take S).map Value.int)) := by
  refine Own.Con.enter pn_5 (ef_5 a p1) fun D r => ?_
  have K : Keep h h [] := Keep.refl _ _
  subst e1
  replace r : A5 l Z n0 D h 0 0 1 #[.val (.ref a), .val (.int (Own.I S)), .unset] [(.int (Own.I S))] := Own.iloadN r d5_0 rfl
  replace r : A5 l Z n0 D h 0 0 2 #[.val (.ref a), .val (.int (Own.I S)), .unset] [(.ref a), (.int (Own.I S))] := Own.aloadN r d5_1 rfl rfl
  replace r : A5 l Z n0 D h 0 0 3 #[.val (.ref a), .val (.int (Own.I S)), .unset] [(.int (Own.I (S + 1))), (.int (Own.I S))] := Own.arrlen r d5_2 V_a (by rw [List.length_map, hL]; rfl)
  replace r : A5 l Z n0 D h 0 0 14 #[.val (.ref a), .val (.int (Own.I S)), .unset] [] := Own.icmpYes r d5_3 (feq (Own.I_ne hS)).2 (by decide) (by decide)
  replace r : A5 l Z n0 D h 0 0 15 #[.val (.ref a), .val (.int (Own.I S)), .unset] [(.int (Own.I S))] := Own.iloadN r d5_14 rfl
  obtain ⟨h1, ⟨E1, V_b⟩, r⟩ := Own.newArr r d5_15 (hw _ (List.mem_of_getElem? (i := 4) rfl)) (Own.Ix.i (Nat.lt_trans hS (by decide))).1 (cap := 6) (by rw [(Own.Ix.i (Nat.lt_trans hS (by decide))).2]; omega) (by decide) (by decide) (by decide)
  obtain ⟨b, g1⟩ : ∃ z, z = h.size := ⟨_, rfl⟩
  rw [← g1] at V_b r
  have ge_b : n0 ≤ b := Nat.le_trans Zs (Nat.le_of_eq g1.symm)
  have sz_b : h.size ≤ b := Nat.le_trans K.1 (Nat.le_of_eq g1.symm)
  have ne_a_b : a ≠ b := Own.ne_lt V_a.lt g1
  replace V_a := V_a.ext E1
  replace Zs := Nat.le_trans Zs E1.1
  replace K := K.ext E1
  replace r : A5 l Z n0 D h1 1 6 17 #[.val (.ref a), .val (.int (Own.I S)), .unset] [(.ref b)] := r
  replace V_b : Own.VA Z h1 b .int (((List.replicate S 0).map Own.I).map Value.int) := by have e := Own.repI (Own.Ix.i (Nat.lt_trans hS (by decide : 6 < 1000))); rw [← e]; exact V_b
  replace r : A5 l Z n0 D h1 1 6 18 #[.val (.ref a), .val (.int (Own.I S)), .val (.ref b)] [] := Own.astoreN r d5_17 rfl rfl
  replace r : A5 l Z n0 D h1 1 6 19 #[.val (.ref a), .val (.int (Own.I S)), .val (.ref b)] [(.ref a)] := Own.aloadN r d5_18 rfl rfl
  replace r : A5 l Z n0 D h1 1 6 20 #[.val (.ref a), .val (.int (Own.I S)), .val (.ref b)] [(.int (0 : Int32)), (.ref a)] := Own.iconst r d5_19 rfl
  replace r : A5 l Z n0 D h1 1 6 21 #[.val (.ref a), .val (.int (Own.I S)), .val (.ref b)] [(.ref b), (.int (0 : Int32)), (.ref a)] := Own.aloadN r d5_20 rfl rfl
  replace r : A5 l Z n0 D h1 1 6 22 #[.val (.ref a), .val (.int (Own.I S)), .val (.ref b)] [(.int (0 : Int32)), (.ref b), (.int (0 : Int32)), (.ref a)] := Own.iconst r d5_21 rfl
  replace r : A5 l Z n0 D h1 1 6 23 #[.val (.ref a), .val (.int (Own.I S)), .val (.ref b)] [(.ref a), (.int (0 : Int32)), (.ref b), (.int (0 : Int32)), (.ref a)] := Own.aloadN r d5_22 rfl rfl
  replace r : A5 l Z n0 D h1 1 6 24 #[.val (.ref a), .val (.int (Own.I S)), .val (.ref b)] [(.int (Own.I (S + 1))), (.int (0 : Int32)), (.ref b), (.int (0 : Int32)), (.ref a)] := Own.arrlen r d5_23 V_a (by rw [List.length_map, hL]; rfl)
  replace r : A5 l Z n0 D h1 1 6 25 #[.val (.ref a), .val (.int (Own.I S)), .val (.ref b)] [(.int (Own.I S)), (.int (Own.I (S + 1))), (.int (0 : Int32)), (.ref b), (.int (0 : Int32)), (.ref a)] := Own.iloadN r d5_24 rfl
  obtain ⟨rv2, h3, hQ4, r⟩ := Own.callS [(.int (Own.I (S + 1))), (.int (Own.I S))] r d5_25 (c6 l Z a0 hw n0 h1 Zs (Own.I (S + 1)) (Own.I S)) (hw _ (List.mem_of_getElem? (i := 29) rfl)) (hw _ (List.mem_of_getElem? (i := 30) rfl)) (hw _ (List.mem_of_getElem? (i := 31) rfl)) (hw _ (List.mem_of_getElem? (i := 32) rfl)) (lenOf pd_5_0 rfl) rfl rfl (W := 4) (Nat.le_of_eq rfl) rfl (by decide) (by decide) (by decide) (by decide) (by decide)
  obtain ⟨rfl, y5, rfl, e_y5⟩ := hQ4
  replace r : A5 l Z n0 D h1 1 6 28 #[.val (.ref a), .val (.int (Own.I S)), .val (.ref b)] [(.int y5), (.int (0 : Int32)), (.ref b), (.int (0 : Int32)), (.ref a)] := r
  have e_min : y5 = Own.I S := own_min hS e_y5
  subst e_min
  replace r : A5 l Z n0 D h1 1 6 28 #[.val (.ref a), .val (.int (Own.I S)), .val (.ref b)] [(.int (Own.I S)), (.int (0 : Int32)), (.ref b), (.int (0 : Int32)), (.ref a)] := r
  obtain ⟨h6, ⟨K7, V_b⟩, r⟩ := Own.arrcopy r d5_28 (hw _ (List.mem_of_getElem? (i := 33) rfl)) (hw _ (List.mem_of_getElem? (i := 36) rfl)) (hw _ (List.mem_of_getElem? (i := 34) rfl)) (hw _ (List.mem_of_getElem? (i := 35) rfl)) V_a V_b (Own.Ix.i (Nat.lt_trans hS (by decide))).1 (by rw [(Own.Ix.i (Nat.lt_trans hS (by decide))).2, hL]; omega) (by rw [(Own.Ix.i (Nat.lt_trans hS (by decide))).2, List.length_map, List.length_replicate]; exact Nat.le_refl _) ge_b rfl (by decide) (W := 0) (Nat.le_of_eq rfl) (by decide)
  replace V_a := V_a.keep K7 (by simp [ne_a_b])
  replace Zs := Nat.le_trans Zs K7.1
  replace K := K.trans K7 (by simp [sz_b])
  replace V_b : Own.VA Z h6 b .int ((L.take S).map Value.int) := by have e := Own.take_rep hS L; rw [← e]; exact V_b
  replace r : A5 l Z n0 D h6 1 6 31 #[.val (.ref a), .val (.int (Own.I S)), .val (.ref b)] [] := r
  replace r : A5 l Z n0 D h6 1 6 32 #[.val (.ref a), .val (.int (Own.I S)), .val (.ref b)] [(.ref b)] := Own.aloadN r d5_31 rfl rfl
  exact ⟨_, _, (Own.Rch.retA r d5_32 rfl rfl).more (by decide) (by decide), b, rfl, sz_b, K, V_b⟩
theorem d4_0 : decode prog_20_method_2_code 0 = .ok (.aload_n 0, 1) := by decide +kernel
theorem d4_1 : decode prog_20_method_2_code 1 = .ok (.getfield 16, 3) := by decide +kernel
theorem d4_4 : decode prog_20_method_2_code 4 = .ok (.arraylength, 1) := by decide +kernel
theorem d4_5 : decode prog_20_method_2_code 5 = .ok (.istore_n 1, 1) := by decide +kernel
theorem d4_6 : decode prog_20_method_2_code 6 = .ok (.iload_n 1, 1) := by decide +kernel
theorem d4_7 : decode prog_20_method_2_code 7 = .ok (.iconst 1, 1) := by decide +kernel
theorem d4_8 : decode prog_20_method_2_code 8 = .ok (.iadd, 1) := by decide +kernel
theorem d4_9 : decode prog_20_method_2_code 9 = .ok (.newarray .int, 2) := by decide +kernel
theorem d4_11 : decode prog_20_method_2_code 11 = .ok (.astore_n 2, 1) := by decide +kernel
theorem d4_12 : decode prog_20_method_2_code 12 = .ok (.aload_n 0, 1) := by decide +kernel
theorem d4_13 : decode prog_20_method_2_code 13 = .ok (.getfield 13, 3) := by decide +kernel
theorem d4_16 : decode prog_20_method_2_code 16 = .ok (.astore_n 3, 1) := by decide +kernel
theorem d4_17 : decode prog_20_method_2_code 17 = .ok (.aload_n 3, 1) := by decide +kernel
theorem d4_18 : decode prog_20_method_2_code 18 = .ok (.arraylength, 1) := by decide +kernel
theorem d4_19 : decode prog_20_method_2_code 19 = .ok (.istore 4, 2) := by decide +kernel
theorem d4_21 : decode prog_20_method_2_code 21 = .ok (.iconst 0, 1) := by decide +kernel
theorem d4_22 : decode prog_20_method_2_code 22 = .ok (.istore 5, 2) := by decide +kernel
theorem d4_24 : decode prog_20_method_2_code 24 = .ok (.iload 5, 2) := by decide +kernel
theorem d4_26 : decode prog_20_method_2_code 26 = .ok (.iload 4, 2) := by decide +kernel
theorem d4_28 : decode prog_20_method_2_code 28 = .ok (.if_icmp .ge 30, 3) := by decide +kernel
theorem d4_31 : decode prog_20_method_2_code 31 = .ok (.aload_n 3, 1) := by decide +kernel
theorem d4_32 : decode prog_20_method_2_code 32 = .ok (.iload 5, 2) := by decide +kernel
theorem d4_34 : decode prog_20_method_2_code 34 = .ok (.iaload, 1) := by decide +kernel
theorem d4_35 : decode prog_20_method_2_code 35 = .ok (.istore 6, 2) := by decide +kernel
theorem d4_37 : decode prog_20_method_2_code 37 = .ok (.iload 6, 2) := by decide +kernel
theorem d4_39 : decode prog_20_method_2_code 39 = .ok (.ifCond .lt 13, 3) := by decide +kernel
theorem d4_42 : decode prog_20_method_2_code 42 = .ok (.aload_n 2, 1) := by decide +kernel
theorem d4_43 : decode prog_20_method_2_code 43 = .ok (.iload 6, 2) := by decide +kernel
theorem d4_45 : decode prog_20_method_2_code 45 = .ok (.iconst 1, 1) := by decide +kernel
theorem d4_46 : decode prog_20_method_2_code 46 = .ok (.iadd, 1) := by decide +kernel
theorem d4_47 : decode prog_20_method_2_code 47 = .ok (.dup2, 1) := by decide +kernel
theorem d4_48 : decode prog_20_method_2_code 48 = .ok (.iaload, 1) := by decide +kernel
theorem d4_49 : decode prog_20_method_2_code 49 = .ok (.iconst 1, 1) := by decide +kernel
theorem d4_50 : decode prog_20_method_2_code 50 = .ok (.iadd, 1) := by decide +kernel
theorem d4_51 : decode prog_20_method_2_code 51 = .ok (.iastore, 1) := by decide +kernel
theorem d4_52 : decode prog_20_method_2_code 52 = .ok (.iinc 5 1, 3) := by decide +kernel
theorem d4_55 : decode prog_20_method_2_code 55 = .ok (.goto (-31), 3) := by decide +kernel
theorem d4_58 : decode prog_20_method_2_code 58 = .ok (.iconst 0, 1) := by decide +kernel
theorem d4_59 : decode prog_20_method_2_code 59 = .ok (.istore_n 3, 1) := by decide +kernel
theorem d4_60 : decode prog_20_method_2_code 60 = .ok (.iload_n 3, 1) := by decide +kernel
theorem d4_61 : decode prog_20_method_2_code 61 = .ok (.iload_n 1, 1) := by decide +kernel
theorem d4_62 : decode prog_20_method_2_code 62 = .ok (.if_icmp .ge 20, 3) := by decide +kernel
theorem d4_65 : decode prog_20_method_2_code 65 = .ok (.aload_n 2, 1) := by decide +kernel
theorem d4_66 : decode prog_20_method_2_code 66 = .ok (.iload_n 3, 1) := by decide +kernel
theorem d4_67 : decode prog_20_method_2_code 67 = .ok (.iconst 1, 1) := by decide +kernel
theorem d4_68 : decode prog_20_method_2_code 68 = .ok (.iadd, 1) := by decide +kernel
theorem d4_69 : decode prog_20_method_2_code 69 = .ok (.dup2, 1) := by decide +kernel
theorem d4_70 : decode prog_20_method_2_code 70 = .ok (.iaload, 1) := by decide +kernel
theorem d4_71 : decode prog_20_method_2_code 71 = .ok (.aload_n 2, 1) := by decide +kernel
theorem d4_72 : decode prog_20_method_2_code 72 = .ok (.iload_n 3, 1) := by decide +kernel
theorem d4_73 : decode prog_20_method_2_code 73 = .ok (.iaload, 1) := by decide +kernel
theorem d4_74 : decode prog_20_method_2_code 74 = .ok (.iadd, 1) := by decide +kernel
theorem d4_75 : decode prog_20_method_2_code 75 = .ok (.iastore, 1) := by decide +kernel
theorem d4_76 : decode prog_20_method_2_code 76 = .ok (.iinc 3 1, 3) := by decide +kernel
theorem d4_79 : decode prog_20_method_2_code 79 = .ok (.goto (-19), 3) := by decide +kernel
theorem d4_82 : decode prog_20_method_2_code 82 = .ok (.aload_n 2, 1) := by decide +kernel
theorem d4_83 : decode prog_20_method_2_code 83 = .ok (.iload_n 1, 1) := by decide +kernel
theorem d4_84 : decode prog_20_method_2_code 84 = .ok (.iaload, 1) := by decide +kernel
theorem d4_85 : decode prog_20_method_2_code 85 = .ok (.newarray .int, 2) := by decide +kernel
theorem d4_87 : decode prog_20_method_2_code 87 = .ok (.astore_n 3, 1) := by decide +kernel
theorem d4_88 : decode prog_20_method_2_code 88 = .ok (.aload_n 2, 1) := by decide +kernel
theorem d4_89 : decode prog_20_method_2_code 89 = .ok (.iload_n 1, 1) := by decide +kernel
theorem d4_90 : decode prog_20_method_2_code 90 = .ok (.invokestatic 27, 3) := by decide +kernel
theorem d4_93 : decode prog_20_method_2_code 93 = .ok (.astore 4, 2) := by decide +kernel
theorem d4_95 : decode prog_20_method_2_code 95 = .ok (.iconst 0, 1) := by decide +kernel
theorem d4_96 : decode prog_20_method_2_code 96 = .ok (.istore 5, 2) := by decide +kernel
theorem d4_98 : decode prog_20_method_2_code 98 = .ok (.iload 5, 2) := by decide +kernel
theorem d4_100 : decode prog_20_method_2_code 100 = .ok (.aload_n 0, 1) := by decide +kernel
theorem d4_101 : decode prog_20_method_2_code 101 = .ok (.getfield 13, 3) := by decide +kernel
theorem d4_104 : decode prog_20_method_2_code 104 = .ok (.arraylength, 1) := by decide +kernel
theorem d4_105 : decode prog_20_method_2_code 105 = .ok (.if_icmp .ge 44, 3) := by decide +kernel
theorem d4_108 : decode prog_20_method_2_code 108 = .ok (.aload_n 0, 1) := by decide +kernel
theorem d4_109 : decode prog_20_method_2_code 109 = .ok (.getfield 13, 3) := by decide +kernel
theorem d4_112 : decode prog_20_method_2_code 112 = .ok (.iload 5, 2) := by decide +kernel
theorem d4_114 : decode prog_20_method_2_code 114 = .ok (.iaload, 1) := by decide +kernel
theorem d4_115 : decode prog_20_method_2_code 115 = .ok (.ifCond .lt 28, 3) := by decide +kernel
theorem d4_118 : decode prog_20_method_2_code 118 = .ok (.aload_n 3, 1) := by decide +kernel
theorem d4_119 : decode prog_20_method_2_code 119 = .ok (.aload 4, 2) := by decide +kernel
theorem d4_121 : decode prog_20_method_2_code 121 = .ok (.aload_n 0, 1) := by decide +kernel
theorem d4_122 : decode prog_20_method_2_code 122 = .ok (.getfield 13, 3) := by decide +kernel
theorem d4_125 : decode prog_20_method_2_code 125 = .ok (.iload 5, 2) := by decide +kernel
theorem d4_127 : decode prog_20_method_2_code 127 = .ok (.iaload, 1) := by decide +kernel
theorem d4_128 : decode prog_20_method_2_code 128 = .ok (.dup2, 1) := by decide +kernel
theorem d4_129 : decode prog_20_method_2_code 129 = .ok (.iaload, 1) := by decide +kernel
theorem d4_130 : decode prog_20_method_2_code 130 = .ok (.dup_x2, 1) := by decide +kernel
theorem d4_131 : decode prog_20_method_2_code 131 = .ok (.iconst 1, 1) := by decide +kernel
theorem d4_132 : decode prog_20_method_2_code 132 = .ok (.iadd, 1) := by decide +kernel
theorem d4_133 : decode prog_20_method_2_code 133 = .ok (.iastore, 1) := by decide +kernel
theorem d4_134 : decode prog_20_method_2_code 134 = .ok (.iload 5, 2) := by decide +kernel
theorem d4_136 : decode prog_20_method_2_code 136 = .ok (.aload_n 0, 1) := by decide +kernel
theorem d4_137 : decode prog_20_method_2_code 137 = .ok (.getfield 7, 3) := by decide +kernel
theorem d4_140 : decode prog_20_method_2_code 140 = .ok (.arraylength, 1) := by decide +kernel
theorem d4_141 : decode prog_20_method_2_code 141 = .ok (.idiv, 1) := by decide +kernel
theorem d4_142 : decode prog_20_method_2_code 142 = .ok (.iastore, 1) := by decide +kernel
theorem d4_143 : decode prog_20_method_2_code 143 = .ok (.iinc 5 1, 3) := by decide +kernel
theorem d4_146 : decode prog_20_method_2_code 146 = .ok (.goto (-48), 3) := by decide +kernel
theorem d4_149 : decode prog_20_method_2_code 149 = .ok (.iload_n 1, 1) := by decide +kernel
theorem d4_150 : decode prog_20_method_2_code 150 = .ok (.newarray .int, 2) := by decide +kernel
theorem d4_152 : decode prog_20_method_2_code 152 = .ok (.astore 5, 2) := by decide +kernel
theorem d4_154 : decode prog_20_method_2_code 154 = .ok (.aload 5, 2) := by decide +kernel
theorem d4_156 : decode prog_20_method_2_code 156 = .ok (.iconst (-1), 1) := by decide +kernel
theorem d4_157 : decode prog_20_method_2_code 157 = .ok (.invokestatic 33, 3) := by decide +kernel
theorem d4_160 : decode prog_20_method_2_code 160 = .ok (.iload_n 1, 1) := by decide +kernel
theorem d4_161 : decode prog_20_method_2_code 161 = .ok (.newarray .int, 2) := by decide +kernel
theorem d4_163 : decode prog_20_method_2_code 163 = .ok (.astore 6, 2) := by decide +kernel
theorem d4_165 : decode prog_20_method_2_code 165 = .ok (.iconst 0, 1) := by decide +kernel
theorem d4_166 : decode prog_20_method_2_code 166 = .ok (.istore 7, 2) := by decide +kernel
theorem d4_168 : decode prog_20_method_2_code 168 = .ok (.iconst 0, 1) := by decide +kernel
theorem d4_169 : decode prog_20_method_2_code 169 = .ok (.istore 8, 2) := by decide +kernel
theorem d4_171 : decode prog_20_method_2_code 171 = .ok (.iload 8, 2) := by decide +kernel
theorem d4_173 : decode prog_20_method_2_code 173 = .ok (.iload_n 1, 1) := by decide +kernel
theorem d4_174 : decode prog_20_method_2_code 174 = .ok (.if_icmp .ge 35, 3) := by decide +kernel
theorem d4_177 : decode prog_20_method_2_code 177 = .ok (.aload_n 0, 1) := by decide +kernel
theorem d4_178 : decode prog_20_method_2_code 178 = .ok (.getfield 16, 3) := by decide +kernel
theorem d4_181 : decode prog_20_method_2_code 181 = .ok (.iload 8, 2) := by decide +kernel
theorem d4_183 : decode prog_20_method_2_code 183 = .ok (.baload, 1) := by decide +kernel
theorem d4_184 : decode prog_20_method_2_code 184 = .ok (.ifCond .eq 19, 3) := by decide +kernel
theorem d4_187 : decode prog_20_method_2_code 187 = .ok (.aload 5, 2) := by decide +kernel
theorem d4_189 : decode prog_20_method_2_code 189 = .ok (.iload 8, 2) := by decide +kernel
theorem d4_191 : decode prog_20_method_2_code 191 = .ok (.iconst 0, 1) := by decide +kernel
theorem d4_192 : decode prog_20_method_2_code 192 = .ok (.iastore, 1) := by decide +kernel
theorem d4_193 : decode prog_20_method_2_code 193 = .ok (.aload 6, 2) := by decide +kernel
theorem d4_195 : decode prog_20_method_2_code 195 = .ok (.iload 7, 2) := by decide +kernel
theorem d4_197 : decode prog_20_method_2_code 197 = .ok (.iinc 7 1, 3) := by decide +kernel
theorem d4_200 : decode prog_20_method_2_code 200 = .ok (.iload 8, 2) := by decide +kernel
theorem d4_202 : decode prog_20_method_2_code 202 = .ok (.iastore, 1) := by decide +kernel
theorem d4_203 : decode prog_20_method_2_code 203 = .ok (.iinc 8 1, 3) := by decide +kernel
theorem d4_206 : decode prog_20_method_2_code 206 = .ok (.goto (-35), 3) := by decide +kernel
theorem d4_209 : decode prog_20_method_2_code 209 = .ok (.iconst 0, 1) := by decide +kernel
theorem d4_210 : decode prog_20_method_2_code 210 = .ok (.istore 8, 2) := by decide +kernel
theorem d4_212 : decode prog_20_method_2_code 212 = .ok (.iload 8, 2) := by decide +kernel
theorem d4_214 : decode prog_20_method_2_code 214 = .ok (.iload 7, 2) := by decide +kernel
theorem d4_216 : decode prog_20_method_2_code 216 = .ok (.if_icmp .ge 75, 3) := by decide +kernel
theorem d4_219 : decode prog_20_method_2_code 219 = .ok (.aload 6, 2) := by decide +kernel
theorem d4_221 : decode prog_20_method_2_code 221 = .ok (.iload 8, 2) := by decide +kernel
theorem d4_223 : decode prog_20_method_2_code 223 = .ok (.iaload, 1) := by decide +kernel
theorem d4_224 : decode prog_20_method_2_code 224 = .ok (.istore 9, 2) := by decide +kernel
theorem d4_226 : decode prog_20_method_2_code 226 = .ok (.aload_n 2, 1) := by decide +kernel
theorem d4_227 : decode prog_20_method_2_code 227 = .ok (.iload 9, 2) := by decide +kernel
theorem d4_229 : decode prog_20_method_2_code 229 = .ok (.iaload, 1) := by decide +kernel
theorem d4_230 : decode prog_20_method_2_code 230 = .ok (.istore 10, 2) := by decide +kernel
theorem d4_232 : decode prog_20_method_2_code 232 = .ok (.iload 10, 2) := by decide +kernel
theorem d4_234 : decode prog_20_method_2_code 234 = .ok (.aload_n 2, 1) := by decide +kernel
theorem d4_235 : decode prog_20_method_2_code 235 = .ok (.iload 9, 2) := by decide +kernel
theorem d4_237 : decode prog_20_method_2_code 237 = .ok (.iconst 1, 1) := by decide +kernel
theorem d4_238 : decode prog_20_method_2_code 238 = .ok (.iadd, 1) := by decide +kernel
theorem d4_239 : decode prog_20_method_2_code 239 = .ok (.iaload, 1) := by decide +kernel
theorem d4_240 : decode prog_20_method_2_code 240 = .ok (.if_icmp .ge 45, 3) := by decide +kernel
theorem d4_243 : decode prog_20_method_2_code 243 = .ok (.aload 5, 2) := by decide +kernel
theorem d4_245 : decode prog_20_method_2_code 245 = .ok (.aload_n 3, 1) := by decide +kernel
theorem d4_246 : decode prog_20_method_2_code 246 = .ok (.iload 10, 2) := by decide +kernel
theorem d4_248 : decode prog_20_method_2_code 248 = .ok (.iaload, 1) := by decide +kernel
theorem d4_249 : decode prog_20_method_2_code 249 = .ok (.iaload, 1) := by decide +kernel
theorem d4_250 : decode prog_20_method_2_code 250 = .ok (.ifCond .ge 29, 3) := by decide +kernel
theorem d4_253 : decode prog_20_method_2_code 253 = .ok (.aload 5, 2) := by decide +kernel
theorem d4_255 : decode prog_20_method_2_code 255 = .ok (.aload_n 3, 1) := by decide +kernel
theorem d4_256 : decode prog_20_method_2_code 256 = .ok (.iload 10, 2) := by decide +kernel
theorem d4_258 : decode prog_20_method_2_code 258 = .ok (.iaload, 1) := by decide +kernel
theorem d4_259 : decode prog_20_method_2_code 259 = .ok (.aload 5, 2) := by decide +kernel
theorem d4_261 : decode prog_20_method_2_code 261 = .ok (.iload 9, 2) := by decide +kernel
theorem d4_263 : decode prog_20_method_2_code 263 = .ok (.iaload, 1) := by decide +kernel
theorem d4_264 : decode prog_20_method_2_code 264 = .ok (.iconst 1, 1) := by decide +kernel
theorem d4_265 : decode prog_20_method_2_code 265 = .ok (.iadd, 1) := by decide +kernel
theorem d4_266 : decode prog_20_method_2_code 266 = .ok (.iastore, 1) := by decide +kernel
theorem d4_267 : decode prog_20_method_2_code 267 = .ok (.aload 6, 2) := by decide +kernel
theorem d4_269 : decode prog_20_method_2_code 269 = .ok (.iload 7, 2) := by decide +kernel
theorem d4_271 : decode prog_20_method_2_code 271 = .ok (.iinc 7 1, 3) := by decide +kernel
theorem d4_274 : decode prog_20_method_2_code 274 = .ok (.aload_n 3, 1) := by decide +kernel
theorem d4_275 : decode prog_20_method_2_code 275 = .ok (.iload 10, 2) := by decide +kernel
theorem d4_277 : decode prog_20_method_2_code 277 = .ok (.iaload, 1) := by decide +kernel
theorem d4_278 : decode prog_20_method_2_code 278 = .ok (.iastore, 1) := by decide +kernel
theorem d4_279 : decode prog_20_method_2_code 279 = .ok (.iinc 10 1, 3) := by decide +kernel
theorem d4_282 : decode prog_20_method_2_code 282 = .ok (.goto (-50), 3) := by decide +kernel
theorem d4_285 : decode prog_20_method_2_code 285 = .ok (.iinc 8 1, 3) := by decide +kernel
theorem d4_288 : decode prog_20_method_2_code 288 = .ok (.goto (-76), 3) := by decide +kernel
theorem d4_291 : decode prog_20_method_2_code 291 = .ok (.aload 5, 2) := by decide +kernel
theorem d4_293 : decode prog_20_method_2_code 293 = .ok (.areturn, 1) := by decide +kernel
theorem pd_4_0 : parseMethodDescriptor "([II)[I" = some ⟨[(.array .int), .int], some (.array .int)⟩ := by decide +kernel
theorem pd_4_1 : parseMethodDescriptor "([II)V" = some ⟨[(.array .int), .int], none⟩ := by decide +kernel
theorem pn_4 : plainFor (⟨"com/example/ref_access_rules/refaccessrules/pattern/Dfa", "distancesToAccepting", "()[I"⟩ : MethodName) = true := plainFor_of_name (by first | (simp [plainName, overriddenIn, x]; done) | decide +kernel)
theorem ef_4 (a : Addr) (m : MethodId) : entryFrame m #[(.ref a)] 11 = mkF m 0 #[.val (.ref a), .unset, .unset, .unset, .unset, .unset, .unset, .unset, .unset, .unset, .unset] [] := by first | (simp [entryFrame, mkF, argsToLocals, Value.category, maxLocals]; done) | rfl
abbrev R4 : Room := ({ frames := 2, cells := 5, slots := 30, locals := 32 } : Room)
abbrev A4 (l : Launch) (Z : State) (n0 : Nat) (D : Own.Dyn) := Own.Rch l Z n0 R4 (⟨"com/example/ref_access_rules/refaccessrules/pattern/Dfa", "distancesToAccepting", "()[I"⟩ : MethodName) prog_20_method_2_code 11 (some (.array .int)) D
def R24 (l : Launch) (Z : State) (n0 : Nat) (D : Own.Dyn) (hh : Heap) (a : Addr) (st : Addr) (tb : Addr) (ac : Addr) (bo : Addr) (T : List Nat) (A : List Nat) (SL : List Int32) (x1 : Int32) (x4 : Int32) (x5 : Int32) (O : List Int32) (h : Heap) : Prop := n0 ≤ h.size ∧ Keep hh h [] ∧ Fld Z h a "com/example/ref_access_rules/refaccessrules/pattern/Dfa" "starts" "[I" (.ref st) ∧ Own.VA Z h st .int (SL.map Value.int) ∧ Fld Z h a "com/example/ref_access_rules/refaccessrules/pattern/Dfa" "table" "[I" (.ref tb) ∧ Own.VA Z h tb .int ((T.map Own.J).map Value.int) ∧ Fld Z h a "com/example/ref_access_rules/refaccessrules/pattern/Dfa" "accepting" "[Z" (.ref ac) ∧ Own.VA Z h ac .boolean ((A.map Own.I).map Value.int) ∧ Own.VA Z h bo .int (O.map Value.int) ∧ ∃ (sl6 : Slot), (sl6 = .unset ∨ ∃ w, sl6 = .val w ∧ w.category = 1) ∧ A4 l Z n0 D h 1 6 24 #[.val (.ref a), .val (.int x1), .val (.ref bo), .val (.ref tb), .val (.int x4), .val (.int x5), sl6, .unset, .unset, .unset, .unset] []
set_option maxRecDepth 65536 in
set_option maxHeartbeats 40000000 in
theorem l24n (l : Launch) (Z : State) (a0 : Array Value) (hw : ∀ d ∈ tables_1, d.before a0 Z = true) (n0 : Nat) (D : Own.Dyn) (hh : Heap) (a : Addr) (st : Addr) (tb : Addr) (ac : Addr) (bo : Addr) (T : List Nat) (A : List Nat) (SL : List Int32) (x1 : Int32) (x4 : Int32) (x5 : Int32) (O : List Int32) (h : Heap) (ne_a_bo : a ≠ bo) (ne_st_bo : st ≠ bo) (ne_tb_bo : tb ≠ bo) (ne_ac_bo : ac ≠ bo) (ge_bo : n0 ≤ bo) (sz_bo : hh.size ≤ bo) (br28 : x5 < x4) (n34 : Nat) (v34 : Int32) (q34 : Own.Ix x5 n34) (g34 : (T.map Own.J)[n34]? = some v34) (br39 : v34 < (0 : Int32)) (hR : R24 l Z n0 D hh a st tb ac bo T A SL x1 x4 x5 O h) :
    ∃ (h' : Heap), R24 l Z n0 D hh a st tb ac bo T A SL x1 x4 ((x5 + (1 : Int32))) (O) h' := by
  obtain ⟨Zs, K, F_starts_a, V_st, F_table_a, V_tb, F_accepting_a, V_ac, V_bo, sl6, o_sl6, r⟩ := hR
  replace r : A4 l Z n0 D h 1 6 26 #[.val (.ref a), .val (.int x1), .val (.ref bo), .val (.ref tb), .val (.int x4), .val (.int x5), sl6, .unset, .unset, .unset, .unset] [(.int x5)] := Own.iload r d4_24 rfl
  replace r : A4 l Z n0 D h 1 6 28 #[.val (.ref a), .val (.int x1), .val (.ref bo), .val (.ref tb), .val (.int x4), .val (.int x5), sl6, .unset, .unset, .unset, .unset] [(.int x4), (.int x5)] := Own.iload r d4_26 rfl
  replace r : A4 l Z n0 D h 1 6 31 #[.val (.ref a), .val (.int x1), .val (.ref bo), .val (.ref tb), .val (.int x4), .val (.int x5), sl6, .unset, .unset, .unset, .unset] [] := Own.icmpNo r d4_28 (tlt br28).2.1
  replace r : A4 l Z n0 D h 1 6 32 #[.val (.ref a), .val (.int x1), .val (.ref bo), .val (.ref tb), .val (.int x4), .val (.int x5), sl6, .unset, .unset, .unset, .unset] [(.ref tb)] := Own.aloadN r d4_31 rfl rfl
  replace r : A4 l Z n0 D h 1 6 34 #[.val (.ref a), .val (.int x1), .val (.ref bo), .val (.ref tb), .val (.int x4), .val (.int x5), sl6, .unset, .unset, .unset, .unset] [(.int x5), (.ref tb)] := Own.iload r d4_32 rfl
  replace r : A4 l Z n0 D h 1 6 35 #[.val (.ref a), .val (.int x1), .val (.ref bo), .val (.ref tb), .val (.int x4), .val (.int x5), sl6, .unset, .unset, .unset, .unset] [(.int v34)] := Own.iaload r d4_34 V_tb q34.1 (Own.Ix.get q34 g34)
  replace r : A4 l Z n0 D h 1 6 37 #[.val (.ref a), .val (.int x1), .val (.ref bo), .val (.ref tb), .val (.int x4), .val (.int x5), .val (.int v34), .unset, .unset, .unset, .unset] [] := Own.istoreS r d4_35 rfl o_sl6
  replace r : A4 l Z n0 D h 1 6 39 #[.val (.ref a), .val (.int x1), .val (.ref bo), .val (.ref tb), .val (.int x4), .val (.int x5), .val (.int v34), .unset, .unset, .unset, .unset] [(.int v34)] := Own.iload r d4_37 rfl
  replace r : A4 l Z n0 D h 1 6 52 #[.val (.ref a), .val (.int x1), .val (.ref bo), .val (.ref tb), .val (.int x4), .val (.int x5), .val (.int v34), .unset, .unset, .unset, .unset] [] := Own.ifYes r d4_39 ((if0 _ _).trans (tlt br39).1) (by decide) (by decide)
  replace r : A4 l Z n0 D h 1 6 55 #[.val (.ref a), .val (.int x1), .val (.ref bo), .val (.ref tb), .val (.int x4), .val (.int (x5 + (1 : Int32))), .val (.int v34), .unset, .unset, .unset, .unset] [] := Own.iinc r d4_52 rfl rfl rfl
  replace r : A4 l Z n0 D h 1 6 24 #[.val (.ref a), .val (.int x1), .val (.ref bo), .val (.ref tb), .val (.int x4), .val (.int (x5 + (1 : Int32))), .val (.int v34), .unset, .unset, .unset, .unset] [] := Own.goto r d4_55 (by decide) (by decide)
  exact ⟨_, ⟨Zs, K, F_starts_a, V_st, F_table_a, V_tb, F_accepting_a, V_ac, V_bo, (.val (.int v34)), (Or.inr ⟨_, rfl, rfl⟩), r⟩⟩
set_option maxRecDepth 65536 in
set_option maxHeartbeats 40000000 in
theorem l24p (l : Launch) (Z : State) (a0 : Array Value) (hw : ∀ d ∈ tables_1, d.before a0 Z = true) (n0 : Nat) (D : Own.Dyn) (hh : Heap) (a : Addr) (st : Addr) (tb : Addr) (ac : Addr) (bo : Addr) (T : List Nat) (A : List Nat) (SL : List Int32) (x1 : Int32) (x4 : Int32) (x5 : Int32) (O : List Int32) (h : Heap) (ne_a_bo : a ≠ bo) (ne_st_bo : st ≠ bo) (ne_tb_bo : tb ≠ bo) (ne_ac_bo : ac ≠ bo) (ge_bo : n0 ≤ bo) (sz_bo : hh.size ≤ bo) (br28 : x5 < x4) (n34 : Nat) (v34 : Int32) (q34 : Own.Ix x5 n34) (g34 : (T.map Own.J)[n34]? = some v34) (br39 : ¬ (v34 < (0 : Int32))) (n48 : Nat) (v48 : Int32) (q48 : Own.Ix (v34 + (1 : Int32)) n48) (g48 : O[n48]? = some v48) (n51 : Nat) (q51 : Own.Ix (v34 + (1 : Int32)) n51) (g51 : n51 < O.length) (hR : R24 l Z n0 D hh a st tb ac bo T A SL x1 x4 x5 O h) :
    ∃ (h' : Heap), R24 l Z n0 D hh a st tb ac bo T A SL x1 x4 ((x5 + (1 : Int32))) ((O.set n51 (v48 + (1 : Int32)))) h' := by
  obtain ⟨Zs, K, F_starts_a, V_st, F_table_a, V_tb, F_accepting_a, V_ac, V_bo, sl6, o_sl6, r⟩ := hR
  replace r : A4 l Z n0 D h 1 6 26 #[.val (.ref a), .val (.int x1), .val (.ref bo), .val (.ref tb), .val (.int x4), .val (.int x5), sl6, .unset, .unset, .unset, .unset] [(.int x5)] := Own.iload r d4_24 rfl
  replace r : A4 l Z n0 D h 1 6 28 #[.val (.ref a), .val (.int x1), .val (.ref bo), .val (.ref tb), .val (.int x4), .val (.int x5), sl6, .unset, .unset, .unset, .unset] [(.int x4), (.int x5)] := Own.iload r d4_26 rfl
  replace r : A4 l Z n0 D h 1 6 31 #[.val (.ref a), .val (.int x1), .val (.ref bo), .val (.ref tb), .val (.int x4), .val (.int x5), sl6, .unset, .unset, .unset, .unset] [] := Own.icmpNo r d4_28 (tlt br28).2.1
  replace r : A4 l Z n0 D h 1 6 32 #[.val (.ref a), .val (.int x1), .val (.ref bo), .val (.ref tb), .val (.int x4), .val (.int x5), sl6, .unset, .unset, .unset, .unset] [(.ref tb)] := Own.aloadN r d4_31 rfl rfl
  replace r : A4 l Z n0 D h 1 6 34 #[.val (.ref a), .val (.int x1), .val (.ref bo), .val (.ref tb), .val (.int x4), .val (.int x5), sl6, .unset, .unset, .unset, .unset] [(.int x5), (.ref tb)] := Own.iload r d4_32 rfl
  replace r : A4 l Z n0 D h 1 6 35 #[.val (.ref a), .val (.int x1), .val (.ref bo), .val (.ref tb), .val (.int x4), .val (.int x5), sl6, .unset, .unset, .unset, .unset] [(.int v34)] := Own.iaload r d4_34 V_tb q34.1 (Own.Ix.get q34 g34)
  replace r : A4 l Z n0 D h 1 6 37 #[.val (.ref a), .val (.int x1), .val (.ref bo), .val (.ref tb), .val (.int x4), .val (.int x5), .val (.int v34), .unset, .unset, .unset, .unset] [] := Own.istoreS r d4_35 rfl o_sl6
  replace r : A4 l Z n0 D h 1 6 39 #[.val (.ref a), .val (.int x1), .val (.ref bo), .val (.ref tb), .val (.int x4), .val (.int x5), .val (.int v34), .unset, .unset, .unset, .unset] [(.int v34)] := Own.iload r d4_37 rfl
  replace r : A4 l Z n0 D h 1 6 42 #[.val (.ref a), .val (.int x1), .val (.ref bo), .val (.ref tb), .val (.int x4), .val (.int x5), .val (.int v34), .unset, .unset, .unset, .unset] [] := Own.ifNo r d4_39 ((if0 _ _).trans (flt br39).1)
  replace r : A4 l Z n0 D h 1 6 43 #[.val (.ref a), .val (.int x1), .val (.ref bo), .val (.ref tb), .val (.int x4), .val (.int x5), .val (.int v34), .unset, .unset, .unset, .unset] [(.ref bo)] := Own.aloadN r d4_42 rfl rfl
  replace r : A4 l Z n0 D h 1 6 45 #[.val (.ref a), .val (.int x1), .val (.ref bo), .val (.ref tb), .val (.int x4), .val (.int x5), .val (.int v34), .unset, .unset, .unset, .unset] [(.int v34), (.ref bo)] := Own.iload r d4_43 rfl
  replace r : A4 l Z n0 D h 1 6 46 #[.val (.ref a), .val (.int x1), .val (.ref bo), .val (.ref tb), .val (.int x4), .val (.int x5), .val (.int v34), .unset, .unset, .unset, .unset] [(.int (1 : Int32)), (.int v34), (.ref bo)] := Own.iconst r d4_45 rfl
  replace r : A4 l Z n0 D h 1 6 47 #[.val (.ref a), .val (.int x1), .val (.ref bo), .val (.ref tb), .val (.int x4), .val (.int x5), .val (.int v34), .unset, .unset, .unset, .unset] [(.int (v34 + (1 : Int32))), (.ref bo)] := Own.iadd r d4_46
  replace r : A4 l Z n0 D h 1 6 48 #[.val (.ref a), .val (.int x1), .val (.ref bo), .val (.ref tb), .val (.int x4), .val (.int x5), .val (.int v34), .unset, .unset, .unset, .unset] [(.int (v34 + (1 : Int32))), (.ref bo), (.int (v34 + (1 : Int32))), (.ref bo)] := Own.dup2 r d4_47 rfl rfl
  replace r : A4 l Z n0 D h 1 6 49 #[.val (.ref a), .val (.int x1), .val (.ref bo), .val (.ref tb), .val (.int x4), .val (.int x5), .val (.int v34), .unset, .unset, .unset, .unset] [(.int v48), (.int (v34 + (1 : Int32))), (.ref bo)] := Own.iaload r d4_48 V_bo q48.1 (Own.Ix.get q48 g48)
  replace r : A4 l Z n0 D h 1 6 50 #[.val (.ref a), .val (.int x1), .val (.ref bo), .val (.ref tb), .val (.int x4), .val (.int x5), .val (.int v34), .unset, .unset, .unset, .unset] [(.int (1 : Int32)), (.int v48), (.int (v34 + (1 : Int32))), (.ref bo)] := Own.iconst r d4_49 rfl
  replace r : A4 l Z n0 D h 1 6 51 #[.val (.ref a), .val (.int x1), .val (.ref bo), .val (.ref tb), .val (.int x4), .val (.int x5), .val (.int v34), .unset, .unset, .unset, .unset] [(.int (v48 + (1 : Int32))), (.int (v34 + (1 : Int32))), (.ref bo)] := Own.iadd r d4_50
  obtain ⟨h2, ⟨W1, V_bo⟩, r⟩ := Own.iastore r d4_51 V_bo q51.1 (Own.Ix.lt q51 g51) ge_bo
  replace r : A4 l Z n0 D h2 1 6 52 #[.val (.ref a), .val (.int x1), .val (.ref bo), .val (.ref tb), .val (.int x4), .val (.int x5), .val (.int v34), .unset, .unset, .unset, .unset] [] := r
  replace F_starts_a := F_starts_a.other W1 (Or.inl ne_a_bo)
  replace V_st := V_st.other W1 ne_st_bo
  replace F_table_a := F_table_a.other W1 (Or.inl ne_a_bo)
  replace V_tb := V_tb.other W1 ne_tb_bo
  replace F_accepting_a := F_accepting_a.other W1 (Or.inl ne_a_bo)
  replace V_ac := V_ac.other W1 ne_ac_bo
  replace Zs := Nat.le_trans Zs (Nat.le_of_eq W1.size.symm)
  replace K := K.wr W1 (Or.inr sz_bo)
  replace V_bo : Own.VA Z h2 bo .int ((O.set n51 (v48 + (1 : Int32))).map Value.int) := by rw [List.map_set, ← q51.2]; exact V_bo
  replace r : A4 l Z n0 D h2 1 6 55 #[.val (.ref a), .val (.int x1), .val (.ref bo), .val (.ref tb), .val (.int x4), .val (.int (x5 + (1 : Int32))), .val (.int v34), .unset, .unset, .unset, .unset] [] := Own.iinc r d4_52 rfl rfl rfl
  replace r : A4 l Z n0 D h2 1 6 24 #[.val (.ref a), .val (.int x1), .val (.ref bo), .val (.ref tb), .val (.int x4), .val (.int (x5 + (1 : Int32))), .val (.int v34), .unset, .unset, .unset, .unset] [] := Own.goto r d4_55 (by decide) (by decide)
  exact ⟨_, ⟨Zs, K, F_starts_a, V_st, F_table_a, V_tb, F_accepting_a, V_ac, V_bo, (.val (.int v34)), (Or.inr ⟨_, rfl, rfl⟩), r⟩⟩
def R60 (l : Launch) (Z : State) (n0 : Nat) (D : Own.Dyn) (hh : Heap) (a : Addr) (st : Addr) (tb : Addr) (ac : Addr) (bo : Addr) (T : List Nat) (A : List Nat) (SL : List Int32) (x1 : Int32) (x3 : Int32) (O : List Int32) (h : Heap) : Prop := n0 ≤ h.size ∧ Keep hh h [] ∧ Fld Z h a "com/example/ref_access_rules/refaccessrules/pattern/Dfa" "starts" "[I" (.ref st) ∧ Own.VA Z h st .int (SL.map Value.int) ∧ Fld Z h a "com/example/ref_access_rules/refaccessrules/pattern/Dfa" "table" "[I" (.ref tb) ∧ Own.VA Z h tb .int ((T.map Own.J).map Value.int) ∧ Fld Z h a "com/example/ref_access_rules/refaccessrules/pattern/Dfa" "accepting" "[Z" (.ref ac) ∧ Own.VA Z h ac .boolean ((A.map Own.I).map Value.int) ∧ Own.VA Z h bo .int (O.map Value.int) ∧ ∃ (sl4 : Slot) (sl5 : Slot) (sl6 : Slot), (sl4 = .unset ∨ ∃ w, sl4 = .val w ∧ w.category = 1) ∧ (sl5 = .unset ∨ ∃ w, sl5 = .val w ∧ w.category = 1) ∧ (sl6 = .unset ∨ ∃ w, sl6 = .val w ∧ w.category = 1) ∧ A4 l Z n0 D h 1 6 60 #[.val (.ref a), .val (.int x1), .val (.ref bo), .val (.int x3), sl4, sl5, sl6, .unset, .unset, .unset, .unset] []
set_option maxRecDepth 65536 in
set_option maxHeartbeats 40000000 in
theorem l60 (l : Launch) (Z : State) (a0 : Array Value) (hw : ∀ d ∈ tables_1, d.before a0 Z = true) (n0 : Nat) (D : Own.Dyn) (hh : Heap) (a : Addr) (st : Addr) (tb : Addr) (ac : Addr) (bo : Addr) (T : List Nat) (A : List Nat) (SL : List Int32) (x1 : Int32) (x3 : Int32) (O : List Int32) (h : Heap) (ne_a_bo : a ≠ bo) (ne_st_bo : st ≠ bo) (ne_tb_bo : tb ≠ bo) (ne_ac_bo : ac ≠ bo) (ge_bo : n0 ≤ bo) (sz_bo : hh.size ≤ bo) (br62 : x3 < x1) (n70 : Nat) (v70 : Int32) (q70 : Own.Ix (x3 + (1 : Int32)) n70) (g70 : O[n70]? = some v70) (n73 : Nat) (v73 : Int32) (q73 : Own.Ix x3 n73) (g73 : O[n73]? = some v73) (n75 : Nat) (q75 : Own.Ix (x3 + (1 : Int32)) n75) (g75 : n75 < O.length) (hR : R60 l Z n0 D hh a st tb ac bo T A SL x1 x3 O h) :
    ∃ (h' : Heap), R60 l Z n0 D hh a st tb ac bo T A SL x1 ((x3 + (1 : Int32))) ((O.set n75 (v70 + v73))) h' := by
  obtain ⟨Zs, K, F_starts_a, V_st, F_table_a, V_tb, F_accepting_a, V_ac, V_bo, sl4, sl5, sl6, o_sl4, o_sl5, o_sl6, r⟩ := hR
  replace r : A4 l Z n0 D h 1 6 61 #[.val (.ref a), .val (.int x1), .val (.ref bo), .val (.int x3), sl4, sl5, sl6, .unset, .unset, .unset, .unset] [(.int x3)] := Own.iloadN r d4_60 rfl
  replace r : A4 l Z n0 D h 1 6 62 #[.val (.ref a), .val (.int x1), .val (.ref bo), .val (.int x3), sl4, sl5, sl6, .unset, .unset, .unset, .unset] [(.int x1), (.int x3)] := Own.iloadN r d4_61 rfl
  replace r : A4 l Z n0 D h 1 6 65 #[.val (.ref a), .val (.int x1), .val (.ref bo), .val (.int x3), sl4, sl5, sl6, .unset, .unset, .unset, .unset] [] := Own.icmpNo r d4_62 (tlt br62).2.1
  replace r : A4 l Z n0 D h 1 6 66 #[.val (.ref a), .val (.int x1), .val (.ref bo), .val (.int x3), sl4, sl5, sl6, .unset, .unset, .unset, .unset] [(.ref bo)] := Own.aloadN r d4_65 rfl rfl
  replace r : A4 l Z n0 D h 1 6 67 #[.val (.ref a), .val (.int x1), .val (.ref bo), .val (.int x3), sl4, sl5, sl6, .unset, .unset, .unset, .unset] [(.int x3), (.ref bo)] := Own.iloadN r d4_66 rfl
  replace r : A4 l Z n0 D h 1 6 68 #[.val (.ref a), .val (.int x1), .val (.ref bo), .val (.int x3), sl4, sl5, sl6, .unset, .unset, .unset, .unset] [(.int (1 : Int32)), (.int x3), (.ref bo)] := Own.iconst r d4_67 rfl
  replace r : A4 l Z n0 D h 1 6 69 #[.val (.ref a), .val (.int x1), .val (.ref bo), .val (.int x3), sl4, sl5, sl6, .unset, .unset, .unset, .unset] [(.int (x3 + (1 : Int32))), (.ref bo)] := Own.iadd r d4_68
  replace r : A4 l Z n0 D h 1 6 70 #[.val (.ref a), .val (.int x1), .val (.ref bo), .val (.int x3), sl4, sl5, sl6, .unset, .unset, .unset, .unset] [(.int (x3 + (1 : Int32))), (.ref bo), (.int (x3 + (1 : Int32))), (.ref bo)] := Own.dup2 r d4_69 rfl rfl
  replace r : A4 l Z n0 D h 1 6 71 #[.val (.ref a), .val (.int x1), .val (.ref bo), .val (.int x3), sl4, sl5, sl6, .unset, .unset, .unset, .unset] [(.int v70), (.int (x3 + (1 : Int32))), (.ref bo)] := Own.iaload r d4_70 V_bo q70.1 (Own.Ix.get q70 g70)
  replace r : A4 l Z n0 D h 1 6 72 #[.val (.ref a), .val (.int x1), .val (.ref bo), .val (.int x3), sl4, sl5, sl6, .unset, .unset, .unset, .unset] [(.ref bo), (.int v70), (.int (x3 + (1 : Int32))), (.ref bo)] := Own.aloadN r d4_71 rfl rfl
  replace r : A4 l Z n0 D h 1 6 73 #[.val (.ref a), .val (.int x1), .val (.ref bo), .val (.int x3), sl4, sl5, sl6, .unset, .unset, .unset, .unset] [(.int x3), (.ref bo), (.int v70), (.int (x3 + (1 : Int32))), (.ref bo)] := Own.iloadN r d4_72 rfl
  replace r : A4 l Z n0 D h 1 6 74 #[.val (.ref a), .val (.int x1), .val (.ref bo), .val (.int x3), sl4, sl5, sl6, .unset, .unset, .unset, .unset] [(.int v73), (.int v70), (.int (x3 + (1 : Int32))), (.ref bo)] := Own.iaload r d4_73 V_bo q73.1 (Own.Ix.get q73 g73)
  replace r : A4 l Z n0 D h 1 6 75 #[.val (.ref a), .val (.int x1), .val (.ref bo), .val (.int x3), sl4, sl5, sl6, .unset, .unset, .unset, .unset] [(.int (v70 + v73)), (.int (x3 + (1 : Int32))), (.ref bo)] := Own.iadd r d4_74
  obtain ⟨h2, ⟨W1, V_bo⟩, r⟩ := Own.iastore r d4_75 V_bo q75.1 (Own.Ix.lt q75 g75) ge_bo
  replace r : A4 l Z n0 D h2 1 6 76 #[.val (.ref a), .val (.int x1), .val (.ref bo), .val (.int x3), sl4, sl5, sl6, .unset, .unset, .unset, .unset] [] := r
  replace F_starts_a := F_starts_a.other W1 (Or.inl ne_a_bo)
  replace V_st := V_st.other W1 ne_st_bo
  replace F_table_a := F_table_a.other W1 (Or.inl ne_a_bo)
  replace V_tb := V_tb.other W1 ne_tb_bo
  replace F_accepting_a := F_accepting_a.other W1 (Or.inl ne_a_bo)
  replace V_ac := V_ac.other W1 ne_ac_bo
  replace Zs := Nat.le_trans Zs (Nat.le_of_eq W1.size.symm)
  replace K := K.wr W1 (Or.inr sz_bo)
  replace V_bo : Own.VA Z h2 bo .int ((O.set n75 (v70 + v73)).map Value.int) := by rw [List.map_set, ← q75.2]; exact V_bo
  replace r : A4 l Z n0 D h2 1 6 79 #[.val (.ref a), .val (.int x1), .val (.ref bo), .val (.int (x3 + (1 : Int32))), sl4, sl5, sl6, .unset, .unset, .unset, .unset] [] := Own.iinc r d4_76 rfl rfl rfl
  replace r : A4 l Z n0 D h2 1 6 60 #[.val (.ref a), .val (.int x1), .val (.ref bo), .val (.int (x3 + (1 : Int32))), sl4, sl5, sl6, .unset, .unset, .unset, .unset] [] := Own.goto r d4_79 (by decide) (by decide)
  exact ⟨_, ⟨Zs, K, F_starts_a, V_st, F_table_a, V_tb, F_accepting_a, V_ac, V_bo, (sl4), (sl5), (sl6), o_sl4, o_sl5, o_sl6, r⟩⟩
def R98 (l : Launch) (Z : State) (n0 : Nat) (D : Own.Dyn) (hh : Heap) (a : Addr) (st : Addr) (tb : Addr) (ac : Addr) (bo : Addr) (bf : Addr) (bl : Addr) (T : List Nat) (A : List Nat) (SL : List Int32) (x1 : Int32) (O : List Int32) (x5 : Int32) (FI : List Int32) (FR : List Int32) (h : Heap) : Prop := n0 ≤ h.size ∧ Keep hh h [] ∧ Fld Z h a "com/example/ref_access_rules/refaccessrules/pattern/Dfa" "starts" "[I" (.ref st) ∧ Own.VA Z h st .int (SL.map Value.int) ∧ Fld Z h a "com/example/ref_access_rules/refaccessrules/pattern/Dfa" "table" "[I" (.ref tb) ∧ Own.VA Z h tb .int ((T.map Own.J).map Value.int) ∧ Fld Z h a "com/example/ref_access_rules/refaccessrules/pattern/Dfa" "accepting" "[Z" (.ref ac) ∧ Own.VA Z h ac .boolean ((A.map Own.I).map Value.int) ∧ Own.VA Z h bo .int (O.map Value.int) ∧ Own.VA Z h bf .int (FR.map Value.int) ∧ Own.VA Z h bl .int (FI.map Value.int) ∧ ∃ (sl6 : Slot), (sl6 = .unset ∨ ∃ w, sl6 = .val w ∧ w.category = 1) ∧ A4 l Z n0 D h 3 18 98 #[.val (.ref a), .val (.int x1), .val (.ref bo), .val (.ref bf), .val (.ref bl), .val (.int x5), sl6, .unset, .unset, .unset, .unset] []
set_option maxRecDepth 65536 in
set_option maxHeartbeats 40000000 in
theorem l98n (l : Launch) (Z : State) (a0 : Array Value) (hw : ∀ d ∈ tables_1, d.before a0 Z = true) (n0 : Nat) (D : Own.Dyn) (hh : Heap) (a : Addr) (st : Addr) (tb : Addr) (ac : Addr) (bo : Addr) (bf : Addr) (bl : Addr) (T : List Nat) (A : List Nat) (SL : List Int32) (x1 : Int32) (O : List Int32) (x5 : Int32) (FI : List Int32) (FR : List Int32) (h : Heap) (ne_a_bf : a ≠ bf) (ne_st_bf : st ≠ bf) (ne_tb_bf : tb ≠ bf) (ne_ac_bf : ac ≠ bf) (ne_bo_bf : bo ≠ bf) (ne_a_bl : a ≠ bl) (ne_st_bl : st ≠ bl) (ne_tb_bl : tb ≠ bl) (ne_ac_bl : ac ≠ bl) (ne_bo_bl : bo ≠ bl) (ne_bf_bl : bf ≠ bl) (ge_bf : n0 ≤ bf) (ge_bl : n0 ≤ bl) (sz_bf : hh.size ≤ bf) (sz_bl : hh.size ≤ bl) (br105 : x5 < (Own.I T.length)) (n114 : Nat) (v114 : Int32) (q114 : Own.Ix x5 n114) (g114 : (T.map Own.J)[n114]? = some v114) (br115 : v114 < (0 : Int32)) (hR : R98 l Z n0 D hh a st tb ac bo bf bl T A SL x1 O x5 FI FR h) :
    ∃ (h' : Heap), R98 l Z n0 D hh a st tb ac bo bf bl T A SL x1 O ((x5 + (1 : Int32))) (FI) (FR) h' := by
  obtain ⟨Zs, K, F_starts_a, V_st, F_table_a, V_tb, F_accepting_a, V_ac, V_bo, V_bf, V_bl, sl6, o_sl6, r⟩ := hR
  replace r : A4 l Z n0 D h 3 18 100 #[.val (.ref a), .val (.int x1), .val (.ref bo), .val (.ref bf), .val (.ref bl), .val (.int x5), sl6, .unset, .unset, .unset, .unset] [(.int x5)] := Own.iload r d4_98 rfl
  replace r : A4 l Z n0 D h 3 18 101 #[.val (.ref a), .val (.int x1), .val (.ref bo), .val (.ref bf), .val (.ref bl), .val (.int x5), sl6, .unset, .unset, .unset, .unset] [(.ref a), (.int x5)] := Own.aloadN r d4_100 rfl rfl
  replace r : A4 l Z n0 D h 3 18 104 #[.val (.ref a), .val (.int x1), .val (.ref bo), .val (.ref bf), .val (.ref bl), .val (.int x5), sl6, .unset, .unset, .unset, .unset] [(.ref tb), (.int x5)] := Own.getfield r d4_101 (host := "") (Or.inl (hw _ (List.mem_of_getElem? (i := 17) rfl))) Via.refl F_table_a
  replace r : A4 l Z n0 D h 3 18 105 #[.val (.ref a), .val (.int x1), .val (.ref bo), .val (.ref bf), .val (.ref bl), .val (.int x5), sl6, .unset, .unset, .unset, .unset] [(.int (Own.I T.length)), (.int x5)] := Own.arrlen r d4_104 V_tb Own.lenM
  replace r : A4 l Z n0 D h 3 18 108 #[.val (.ref a), .val (.int x1), .val (.ref bo), .val (.ref bf), .val (.ref bl), .val (.int x5), sl6, .unset, .unset, .unset, .unset] [] := Own.icmpNo r d4_105 (tlt br105).2.1
  replace r : A4 l Z n0 D h 3 18 109 #[.val (.ref a), .val (.int x1), .val (.ref bo), .val (.ref bf), .val (.ref bl), .val (.int x5), sl6, .unset, .unset, .unset, .unset] [(.ref a)] := Own.aloadN r d4_108 rfl rfl
  replace r : A4 l Z n0 D h 3 18 112 #[.val (.ref a), .val (.int x1), .val (.ref bo), .val (.ref bf), .val (.ref bl), .val (.int x5), sl6, .unset, .unset, .unset, .unset] [(.ref tb)] := Own.getfield r d4_109 (host := "") (Or.inl (hw _ (List.mem_of_getElem? (i := 17) rfl))) Via.refl F_table_a
  replace r : A4 l Z n0 D h 3 18 114 #[.val (.ref a), .val (.int x1), .val (.ref bo), .val (.ref bf), .val (.ref bl), .val (.int x5), sl6, .unset, .unset, .unset, .unset] [(.int x5), (.ref tb)] := Own.iload r d4_112 rfl
  replace r : A4 l Z n0 D h 3 18 115 #[.val (.ref a), .val (.int x1), .val (.ref bo), .val (.ref bf), .val (.ref bl), .val (.int x5), sl6, .unset, .unset, .unset, .unset] [(.int v114)] := Own.iaload r d4_114 V_tb q114.1 (Own.Ix.get q114 g114)
  replace r : A4 l Z n0 D h 3 18 143 #[.val (.ref a), .val (.int x1), .val (.ref bo), .val (.ref bf), .val (.ref bl), .val (.int x5), sl6, .unset, .unset, .unset, .unset] [] := Own.ifYes r d4_115 ((if0 _ _).trans (tlt br115).1) (by decide) (by decide)
  replace r : A4 l Z n0 D h 3 18 146 #[.val (.ref a), .val (.int x1), .val (.ref bo), .val (.ref bf), .val (.ref bl), .val (.int (x5 + (1 : Int32))), sl6, .unset, .unset, .unset, .unset] [] := Own.iinc r d4_143 rfl rfl rfl
  replace r : A4 l Z n0 D h 3 18 98 #[.val (.ref a), .val (.int x1), .val (.ref bo), .val (.ref bf), .val (.ref bl), .val (.int (x5 + (1 : Int32))), sl6, .unset, .unset, .unset, .unset] [] := Own.goto r d4_146 (by decide) (by decide)
  exact ⟨_, ⟨Zs, K, F_starts_a, V_st, F_table_a, V_tb, F_accepting_a, V_ac, V_bo, V_bf, V_bl, (sl6), o_sl6, r⟩⟩
set_option maxRecDepth 65536 in
set_option maxHeartbeats 40000000 in
theorem l98p (l : Launch) (Z : State) (a0 : Array Value) (hw : ∀ d ∈ tables_1, d.before a0 Z = true) (n0 : Nat) (D : Own.Dyn) (hh : Heap) (a : Addr) (st : Addr) (tb : Addr) (ac : Addr) (bo : Addr) (bf : Addr) (bl : Addr) (T : List Nat) (A : List Nat) (SL : List Int32) (x1 : Int32) (O : List Int32) (x5 : Int32) (FI : List Int32) (FR : List Int32) (h : Heap) (ne_a_bf : a ≠ bf) (ne_st_bf : st ≠ bf) (ne_tb_bf : tb ≠ bf) (ne_ac_bf : ac ≠ bf) (ne_bo_bf : bo ≠ bf) (ne_a_bl : a ≠ bl) (ne_st_bl : st ≠ bl) (ne_tb_bl : tb ≠ bl) (ne_ac_bl : ac ≠ bl) (ne_bo_bl : bo ≠ bl) (ne_bf_bl : bf ≠ bl) (ge_bf : n0 ≤ bf) (ge_bl : n0 ≤ bl) (sz_bf : hh.size ≤ bf) (sz_bl : hh.size ≤ bl) (br105 : x5 < (Own.I T.length)) (n114 : Nat) (v114 : Int32) (q114 : Own.Ix x5 n114) (g114 : (T.map Own.J)[n114]? = some v114) (br115 : ¬ (v114 < (0 : Int32))) (n127 : Nat) (v127 : Int32) (q127 : Own.Ix x5 n127) (g127 : (T.map Own.J)[n127]? = some v127) (n129 : Nat) (v129 : Int32) (q129 : Own.Ix v127 n129) (g129 : FI[n129]? = some v129) (n133 : Nat) (q133 : Own.Ix v127 n133) (g133 : n133 < FI.length) (z141 : (Own.I SL.length) ≠ 0) (n142 : Nat) (q142 : Own.Ix v129 n142) (g142 : n142 < FR.length) (hR : R98 l Z n0 D hh a st tb ac bo bf bl T A SL x1 O x5 FI FR h) :
    ∃ (h' : Heap), R98 l Z n0 D hh a st tb ac bo bf bl T A SL x1 O ((x5 + (1 : Int32))) ((FI.set n133 (v129 + (1 : Int32)))) ((FR.set n142 (x5 / (Own.I SL.length)))) h' := by
  obtain ⟨Zs, K, F_starts_a, V_st, F_table_a, V_tb, F_accepting_a, V_ac, V_bo, V_bf, V_bl, sl6, o_sl6, r⟩ := hR
  replace r : A4 l Z n0 D h 3 18 100 #[.val (.ref a), .val (.int x1), .val (.ref bo), .val (.ref bf), .val (.ref bl), .val (.int x5), sl6, .unset, .unset, .unset, .unset] [(.int x5)] := Own.iload r d4_98 rfl
  replace r : A4 l Z n0 D h 3 18 101 #[.val (.ref a), .val (.int x1), .val (.ref bo), .val (.ref bf), .val (.ref bl), .val (.int x5), sl6, .unset, .unset, .unset, .unset] [(.ref a), (.int x5)] := Own.aloadN r d4_100 rfl rfl
  replace r : A4 l Z n0 D h 3 18 104 #[.val (.ref a), .val (.int x1), .val (.ref bo), .val (.ref bf), .val (.ref bl), .val (.int x5), sl6, .unset, .unset, .unset, .unset] [(.ref tb), (.int x5)] := Own.getfield r d4_101 (host := "") (Or.inl (hw _ (List.mem_of_getElem? (i := 17) rfl))) Via.refl F_table_a
  replace r : A4 l Z n0 D h 3 18 105 #[.val (.ref a), .val (.int x1), .val (.ref bo), .val (.ref bf), .val (.ref bl), .val (.int x5), sl6, .unset, .unset, .unset, .unset] [(.int (Own.I T.length)), (.int x5)] := Own.arrlen r d4_104 V_tb Own.lenM
  replace r : A4 l Z n0 D h 3 18 108 #[.val (.ref a), .val (.int x1), .val (.ref bo), .val (.ref bf), .val (.ref bl), .val (.int x5), sl6, .unset, .unset, .unset, .unset] [] := Own.icmpNo r d4_105 (tlt br105).2.1
  replace r : A4 l Z n0 D h 3 18 109 #[.val (.ref a), .val (.int x1), .val (.ref bo), .val (.ref bf), .val (.ref bl), .val (.int x5), sl6, .unset, .unset, .unset, .unset] [(.ref a)] := Own.aloadN r d4_108 rfl rfl
  replace r : A4 l Z n0 D h 3 18 112 #[.val (.ref a), .val (.int x1), .val (.ref bo), .val (.ref bf), .val (.ref bl), .val (.int x5), sl6, .unset, .unset, .unset, .unset] [(.ref tb)] := Own.getfield r d4_109 (host := "") (Or.inl (hw _ (List.mem_of_getElem? (i := 17) rfl))) Via.refl F_table_a
  replace r : A4 l Z n0 D h 3 18 114 #[.val (.ref a), .val (.int x1), .val (.ref bo), .val (.ref bf), .val (.ref bl), .val (.int x5), sl6, .unset, .unset, .unset, .unset] [(.int x5), (.ref tb)] := Own.iload r d4_112 rfl
  replace r : A4 l Z n0 D h 3 18 115 #[.val (.ref a), .val (.int x1), .val (.ref bo), .val (.ref bf), .val (.ref bl), .val (.int x5), sl6, .unset, .unset, .unset, .unset] [(.int v114)] := Own.iaload r d4_114 V_tb q114.1 (Own.Ix.get q114 g114)
  replace r : A4 l Z n0 D h 3 18 118 #[.val (.ref a), .val (.int x1), .val (.ref bo), .val (.ref bf), .val (.ref bl), .val (.int x5), sl6, .unset, .unset, .unset, .unset] [] := Own.ifNo r d4_115 ((if0 _ _).trans (flt br115).1)
  replace r : A4 l Z n0 D h 3 18 119 #[.val (.ref a), .val (.int x1), .val (.ref bo), .val (.ref bf), .val (.ref bl), .val (.int x5), sl6, .unset, .unset, .unset, .unset] [(.ref bf)] := Own.aloadN r d4_118 rfl rfl
  replace r : A4 l Z n0 D h 3 18 121 #[.val (.ref a), .val (.int x1), .val (.ref bo), .val (.ref bf), .val (.ref bl), .val (.int x5), sl6, .unset, .unset, .unset, .unset] [(.ref bl), (.ref bf)] := Own.aload r d4_119 rfl rfl
  replace r : A4 l Z n0 D h 3 18 122 #[.val (.ref a), .val (.int x1), .val (.ref bo), .val (.ref bf), .val (.ref bl), .val (.int x5), sl6, .unset, .unset, .unset, .unset] [(.ref a), (.ref bl), (.ref bf)] := Own.aloadN r d4_121 rfl rfl
  replace r : A4 l Z n0 D h 3 18 125 #[.val (.ref a), .val (.int x1), .val (.ref bo), .val (.ref bf), .val (.ref bl), .val (.int x5), sl6, .unset, .unset, .unset, .unset] [(.ref tb), (.ref bl), (.ref bf)] := Own.getfield r d4_122 (host := "") (Or.inl (hw _ (List.mem_of_getElem? (i := 17) rfl))) Via.refl F_table_a
  replace r : A4 l Z n0 D h 3 18 127 #[.val (.ref a), .val (.int x1), .val (.ref bo), .val (.ref bf), .val (.ref bl), .val (.int x5), sl6, .unset, .unset, .unset, .unset] [(.int x5), (.ref tb), (.ref bl), (.ref bf)] := Own.iload r d4_125 rfl
  replace r : A4 l Z n0 D h 3 18 128 #[.val (.ref a), .val (.int x1), .val (.ref bo), .val (.ref bf), .val (.ref bl), .val (.int x5), sl6, .unset, .unset, .unset, .unset] [(.int v127), (.ref bl), (.ref bf)] := Own.iaload r d4_127 V_tb q127.1 (Own.Ix.get q127 g127)
  replace r : A4 l Z n0 D h 3 18 129 #[.val (.ref a), .val (.int x1), .val (.ref bo), .val (.ref bf), .val (.ref bl), .val (.int x5), sl6, .unset, .unset, .unset, .unset] [(.int v127), (.ref bl), (.int v127), (.ref bl), (.ref bf)] := Own.dup2 r d4_128 rfl rfl
  replace r : A4 l Z n0 D h 3 18 130 #[.val (.ref a), .val (.int x1), .val (.ref bo), .val (.ref bf), .val (.ref bl), .val (.int x5), sl6, .unset, .unset, .unset, .unset] [(.int v129), (.int v127), (.ref bl), (.ref bf)] := Own.iaload r d4_129 V_bl q129.1 (Own.Ix.get q129 g129)
  replace r : A4 l Z n0 D h 3 18 131 #[.val (.ref a), .val (.int x1), .val (.ref bo), .val (.ref bf), .val (.ref bl), .val (.int x5), sl6, .unset, .unset, .unset, .unset] [(.int v129), (.int v127), (.ref bl), (.int v129), (.ref bf)] := Own.dupX2 r d4_130 rfl rfl rfl
  replace r : A4 l Z n0 D h 3 18 132 #[.val (.ref a), .val (.int x1), .val (.ref bo), .val (.ref bf), .val (.ref bl), .val (.int x5), sl6, .unset, .unset, .unset, .unset] [(.int (1 : Int32)), (.int v129), (.int v127), (.ref bl), (.int v129), (.ref bf)] := Own.iconst r d4_131 rfl
  replace r : A4 l Z n0 D h 3 18 133 #[.val (.ref a), .val (.int x1), .val (.ref bo), .val (.ref bf), .val (.ref bl), .val (.int x5), sl6, .unset, .unset, .unset, .unset] [(.int (v129 + (1 : Int32))), (.int v127), (.ref bl), (.int v129), (.ref bf)] := Own.iadd r d4_132
  obtain ⟨h2, ⟨W1, V_bl⟩, r⟩ := Own.iastore r d4_133 V_bl q133.1 (Own.Ix.lt q133 g133) ge_bl
  replace r : A4 l Z n0 D h2 3 18 134 #[.val (.ref a), .val (.int x1), .val (.ref bo), .val (.ref bf), .val (.ref bl), .val (.int x5), sl6, .unset, .unset, .unset, .unset] [(.int v129), (.ref bf)] := r
  replace F_starts_a := F_starts_a.other W1 (Or.inl ne_a_bl)
  replace V_st := V_st.other W1 ne_st_bl
  replace F_table_a := F_table_a.other W1 (Or.inl ne_a_bl)
  replace V_tb := V_tb.other W1 ne_tb_bl
  replace F_accepting_a := F_accepting_a.other W1 (Or.inl ne_a_bl)
  replace V_ac := V_ac.other W1 ne_ac_bl
  replace V_bo := V_bo.other W1 ne_bo_bl
  replace V_bf := V_bf.other W1 ne_bf_bl
  replace Zs := Nat.le_trans Zs (Nat.le_of_eq W1.size.symm)
  replace K := K.wr W1 (Or.inr sz_bl)
  replace V_bl : Own.VA Z h2 bl .int ((FI.set n133 (v129 + (1 : Int32))).map Value.int) := by rw [List.map_set, ← q133.2]; exact V_bl
  replace r : A4 l Z n0 D h2 3 18 136 #[.val (.ref a), .val (.int x1), .val (.ref bo), .val (.ref bf), .val (.ref bl), .val (.int x5), sl6, .unset, .unset, .unset, .unset] [(.int x5), (.int v129), (.ref bf)] := Own.iload r d4_134 rfl
  replace r : A4 l Z n0 D h2 3 18 137 #[.val (.ref a), .val (.int x1), .val (.ref bo), .val (.ref bf), .val (.ref bl), .val (.int x5), sl6, .unset, .unset, .unset, .unset] [(.ref a), (.int x5), (.int v129), (.ref bf)] := Own.aloadN r d4_136 rfl rfl
  replace r : A4 l Z n0 D h2 3 18 140 #[.val (.ref a), .val (.int x1), .val (.ref bo), .val (.ref bf), .val (.ref bl), .val (.int x5), sl6, .unset, .unset, .unset, .unset] [(.ref st), (.int x5), (.int v129), (.ref bf)] := Own.getfield r d4_137 (host := "") (Or.inl (hw _ (List.mem_of_getElem? (i := 15) rfl))) Via.refl F_starts_a
  replace r : A4 l Z n0 D h2 3 18 141 #[.val (.ref a), .val (.int x1), .val (.ref bo), .val (.ref bf), .val (.ref bl), .val (.int x5), sl6, .unset, .unset, .unset, .unset] [(.int (Own.I SL.length)), (.int x5), (.int v129), (.ref bf)] := Own.arrlen r d4_140 V_st (by rw [List.length_map]; rfl)
  replace r : A4 l Z n0 D h2 3 18 142 #[.val (.ref a), .val (.int x1), .val (.ref bo), .val (.ref bf), .val (.ref bl), .val (.int x5), sl6, .unset, .unset, .unset, .unset] [(.int (x5 / (Own.I SL.length))), (.int v129), (.ref bf)] := Own.idiv r d4_141 z141
  obtain ⟨h4, ⟨W3, V_bf⟩, r⟩ := Own.iastore r d4_142 V_bf q142.1 (Own.Ix.lt q142 g142) ge_bf
  replace r : A4 l Z n0 D h4 3 18 143 #[.val (.ref a), .val (.int x1), .val (.ref bo), .val (.ref bf), .val (.ref bl), .val (.int x5), sl6, .unset, .unset, .unset, .unset] [] := r
  replace F_starts_a := F_starts_a.other W3 (Or.inl ne_a_bf)
  replace V_st := V_st.other W3 ne_st_bf
  replace F_table_a := F_table_a.other W3 (Or.inl ne_a_bf)
  replace V_tb := V_tb.other W3 ne_tb_bf
  replace F_accepting_a := F_accepting_a.other W3 (Or.inl ne_a_bf)
  replace V_ac := V_ac.other W3 ne_ac_bf
  replace V_bo := V_bo.other W3 ne_bo_bf
  replace V_bl := V_bl.other W3 (Ne.symm ne_bf_bl)
  replace Zs := Nat.le_trans Zs (Nat.le_of_eq W3.size.symm)
  replace K := K.wr W3 (Or.inr sz_bf)
  replace V_bf : Own.VA Z h4 bf .int ((FR.set n142 (x5 / (Own.I SL.length))).map Value.int) := by rw [List.map_set, ← q142.2]; exact V_bf
  replace r : A4 l Z n0 D h4 3 18 146 #[.val (.ref a), .val (.int x1), .val (.ref bo), .val (.ref bf), .val (.ref bl), .val (.int (x5 + (1 : Int32))), sl6, .unset, .unset, .unset, .unset] [] := Own.iinc r d4_143 rfl rfl rfl
  replace r : A4 l Z n0 D h4 3 18 98 #[.val (.ref a), .val (.int x1), .val (.ref bo), .val (.ref bf), .val (.ref bl), .val (.int (x5 + (1 : Int32))), sl6, .unset, .unset, .unset, .unset] [] := Own.goto r d4_146 (by decide) (by decide)
  exact ⟨_, ⟨Zs, K, F_starts_a, V_st, F_table_a, V_tb, F_accepting_a, V_ac, V_bo, V_bf, V_bl, (sl6), o_sl6, r⟩⟩
def R171_ (l : Launch) (Z : State) (n0 : Nat) (D : Own.Dyn) (hh : Heap) (a : Addr) (ac : Addr) (bo : Addr) (bf : Addr) (bl : Addr) (bd : Addr) (bq : Addr) (A : List Nat) (x1 : Int32) (O : List Int32) (FR : List Int32) (x7 : Int32) (x8 : Int32) (DD : List Int32) (QQ : List Int32) (h : Heap) : Prop := n0 ≤ h.size ∧ Keep hh h [] ∧ Fld Z h a "com/example/ref_access_rules/refaccessrules/pattern/Dfa" "accepting" "[Z" (.ref ac) ∧ Own.VA Z h ac .boolean ((A.map Own.I).map Value.int) ∧ Own.VA Z h bo .int (O.map Value.int) ∧ Own.VA Z h bf .int (FR.map Value.int) ∧ Own.VA Z h bd .int (DD.map Value.int) ∧ Own.VA Z h bq .int (QQ.map Value.int) ∧ A4 l Z n0 D h 5 30 171 #[.val (.ref a), .val (.int x1), .val (.ref bo), .val (.ref bf), .val (.ref bl), .val (.ref bd), .val (.ref bq), .val (.int x7), .val (.int x8), .unset, .unset] []
set_option maxRecDepth 65536 in
set_option maxHeartbeats 40000000 in
theorem l171n (l : Launch) (Z : State) (a0 : Array Value) (hw : ∀ d ∈ tables_1, d.before a0 Z = true) (n0 : Nat) (D : Own.Dyn) (hh : Heap) (a : Addr) (ac : Addr) (bo : Addr) (bf : Addr) (bl : Addr) (bd : Addr) (bq : Addr) (A : List Nat) (x1 : Int32) (O : List Int32) (FR : List Int32) (x7 : Int32) (x8 : Int32) (DD : List Int32) (QQ : List Int32) (h : Heap) (ne_a_bd : a ≠ bd) (ne_ac_bd : ac ≠ bd) (ne_bo_bd : bo ≠ bd) (ne_bf_bd : bf ≠ bd) (ne_a_bq : a ≠ bq) (ne_ac_bq : ac ≠ bq) (ne_bo_bq : bo ≠ bq) (ne_bf_bq : bf ≠ bq) (ne_bd_bq : bd ≠ bq) (ge_bd : n0 ≤ bd) (ge_bq : n0 ≤ bq) (sz_bd : hh.size ≤ bd) (sz_bq : hh.size ≤ bq) (br174 : x8 < x1) (n183 : Nat) (v183 : Int32) (q183 : Own.Ix x8 n183) (g183 : (A.map Own.I)[n183]? = some v183) (br184 : v183 = (0 : Int32)) (hR : R171_ l Z n0 D hh a ac bo bf bl bd bq A x1 O FR x7 x8 DD QQ h) :
    ∃ (h' : Heap), R171_ l Z n0 D hh a ac bo bf bl bd bq A x1 O FR (x7) ((x8 + (1 : Int32))) (DD) (QQ) h' := by
  obtain ⟨Zs, K, F_accepting_a, V_ac, V_bo, V_bf, V_bd, V_bq, r⟩ := hR
  replace r : A4 l Z n0 D h 5 30 173 #[.val (.ref a), .val (.int x1), .val (.ref bo), .val (.ref bf), .val (.ref bl), .val (.ref bd), .val (.ref bq), .val (.int x7), .val (.int x8), .unset, .unset] [(.int x8)] := Own.iload r d4_171 rfl
  replace r : A4 l Z n0 D h 5 30 174 #[.val (.ref a), .val (.int x1), .val (.ref bo), .val (.ref bf), .val (.ref bl), .val (.ref bd), .val (.ref bq), .val (.int x7), .val (.int x8), .unset, .unset] [(.int x1), (.int x8)] := Own.iloadN r d4_173 rfl
  replace r : A4 l Z n0 D h 5 30 177 #[.val (.ref a), .val (.int x1), .val (.ref bo), .val (.ref bf), .val (.ref bl), .val (.ref bd), .val (.ref bq), .val (.int x7), .val (.int x8), .unset, .unset] [] := Own.icmpNo r d4_174 (tlt br174).2.1
  replace r : A4 l Z n0 D h 5 30 178 #[.val (.ref a), .val (.int x1), .val (.ref bo), .val (.ref bf), .val (.ref bl), .val (.ref bd), .val (.ref bq), .val (.int x7), .val (.int x8), .unset, .unset] [(.ref a)] := Own.aloadN r d4_177 rfl rfl
  replace r : A4 l Z n0 D h 5 30 181 #[.val (.ref a), .val (.int x1), .val (.ref bo), .val (.ref bf), .val (.ref bl), .val (.ref bd), .val (.ref bq), .val (.int x7), .val (.int x8), .unset, .unset] [(.ref ac)] := Own.getfield r d4_178 (host := "") (Or.inl (hw _ (List.mem_of_getElem? (i := 19) rfl))) Via.refl F_accepting_a
  replace r : A4 l Z n0 D h 5 30 183 #[.val (.ref a), .val (.int x1), .val (.ref bo), .val (.ref bf), .val (.ref bl), .val (.ref bd), .val (.ref bq), .val (.int x7), .val (.int x8), .unset, .unset] [(.int x8), (.ref ac)] := Own.iload r d4_181 rfl
  replace r : A4 l Z n0 D h 5 30 184 #[.val (.ref a), .val (.int x1), .val (.ref bo), .val (.ref bf), .val (.ref bl), .val (.ref bd), .val (.ref bq), .val (.int x7), .val (.int x8), .unset, .unset] [(.int v183)] := Own.zaload r d4_183 V_ac q183.1 (Own.Ix.get q183 g183)
  replace r : A4 l Z n0 D h 5 30 203 #[.val (.ref a), .val (.int x1), .val (.ref bo), .val (.ref bf), .val (.ref bl), .val (.ref bd), .val (.ref bq), .val (.int x7), .val (.int x8), .unset, .unset] [] := Own.ifYes r d4_184 ((if0 _ _).trans (teq br184).1) (by decide) (by decide)
  replace r : A4 l Z n0 D h 5 30 206 #[.val (.ref a), .val (.int x1), .val (.ref bo), .val (.ref bf), .val (.ref bl), .val (.ref bd), .val (.ref bq), .val (.int x7), .val (.int (x8 + (1 : Int32))), .unset, .unset] [] := Own.iinc r d4_203 rfl rfl rfl
  replace r : A4 l Z n0 D h 5 30 171 #[.val (.ref a), .val (.int x1), .val (.ref bo), .val (.ref bf), .val (.ref bl), .val (.ref bd), .val (.ref bq), .val (.int x7), .val (.int (x8 + (1 : Int32))), .unset, .unset] [] := Own.goto r d4_206 (by decide) (by decide)
  exact ⟨_, ⟨Zs, K, F_accepting_a, V_ac, V_bo, V_bf, V_bd, V_bq, r⟩⟩
set_option maxRecDepth 65536 in
set_option maxHeartbeats 40000000 in
theorem l171p (l : Launch) (Z : State) (a0 : Array Value) (hw : ∀ d ∈ tables_1, d.before a0 Z = true) (n0 : Nat) (D : Own.Dyn) (hh : Heap) (a : Addr) (ac : Addr) (bo : Addr) (bf : Addr) (bl : Addr) (bd : Addr) (bq : Addr) (A : List Nat) (x1 : Int32) (O : List Int32) (FR : List Int32) (x7 : Int32) (x8 : Int32) (DD : List Int32) (QQ : List Int32) (h : Heap) (ne_a_bd : a ≠ bd) (ne_ac_bd : ac ≠ bd) (ne_bo_bd : bo ≠ bd) (ne_bf_bd : bf ≠ bd) (ne_a_bq : a ≠ bq) (ne_ac_bq : ac ≠ bq) (ne_bo_bq : bo ≠ bq) (ne_bf_bq : bf ≠ bq) (ne_bd_bq : bd ≠ bq) (ge_bd : n0 ≤ bd) (ge_bq : n0 ≤ bq) (sz_bd : hh.size ≤ bd) (sz_bq : hh.size ≤ bq) (br174 : x8 < x1) (n183 : Nat) (v183 : Int32) (q183 : Own.Ix x8 n183) (g183 : (A.map Own.I)[n183]? = some v183) (br184 : ¬ (v183 = (0 : Int32))) (n192 : Nat) (q192 : Own.Ix x8 n192) (g192 : n192 < DD.length) (n202 : Nat) (q202 : Own.Ix x7 n202) (g202 : n202 < QQ.length) (hR : R171_ l Z n0 D hh a ac bo bf bl bd bq A x1 O FR x7 x8 DD QQ h) :
    ∃ (h' : Heap), R171_ l Z n0 D hh a ac bo bf bl bd bq A x1 O FR ((x7 + (1 : Int32))) ((x8 + (1 : Int32))) ((DD.set n192 (0 : Int32))) ((QQ.set n202 x8)) h' := by
  obtain ⟨Zs, K, F_accepting_a, V_ac, V_bo, V_bf, V_bd, V_bq, r⟩ := hR
  replace r : A4 l Z n0 D h 5 30 173 #[.val (.ref a), .val (.int x1), .val (.ref bo), .val (.ref bf), .val (.ref bl), .val (.ref bd), .val (.ref bq), .val (.int x7), .val (.int x8), .unset, .unset] [(.int x8)] := Own.iload r d4_171 rfl
  replace r : A4 l Z n0 D h 5 30 174 #[.val (.ref a), .val (.int x1), .val (.ref bo), .val (.ref bf), .val (.ref bl), .val (.ref bd), .val (.ref bq), .val (.int x7), .val (.int x8), .unset, .unset] [(.int x1), (.int x8)] := Own.iloadN r d4_173 rfl
  replace r : A4 l Z n0 D h 5 30 177 #[.val (.ref a), .val (.int x1), .val (.ref bo), .val (.ref bf), .val (.ref bl), .val (.ref bd), .val (.ref bq), .val (.int x7), .val (.int x8), .unset, .unset] [] := Own.icmpNo r d4_174 (tlt br174).2.1
  replace r : A4 l Z n0 D h 5 30 178 #[.val (.ref a), .val (.int x1), .val (.ref bo), .val (.ref bf), .val (.ref bl), .val (.ref bd), .val (.ref bq), .val (.int x7), .val (.int x8), .unset, .unset] [(.ref a)] := Own.aloadN r d4_177 rfl rfl
  replace r : A4 l Z n0 D h 5 30 181 #[.val (.ref a), .val (.int x1), .val (.ref bo), .val (.ref bf), .val (.ref bl), .val (.ref bd), .val (.ref bq), .val (.int x7), .val (.int x8), .unset, .unset] [(.ref ac)] := Own.getfield r d4_178 (host := "") (Or.inl (hw _ (List.mem_of_getElem? (i := 19) rfl))) Via.refl F_accepting_a
  replace r : A4 l Z n0 D h 5 30 183 #[.val (.ref a), .val (.int x1), .val (.ref bo), .val (.ref bf), .val (.ref bl), .val (.ref bd), .val (.ref bq), .val (.int x7), .val (.int x8), .unset, .unset] [(.int x8), (.ref ac)] := Own.iload r d4_181 rfl
  replace r : A4 l Z n0 D h 5 30 184 #[.val (.ref a), .val (.int x1), .val (.ref bo), .val (.ref bf), .val (.ref bl), .val (.ref bd), .val (.ref bq), .val (.int x7), .val (.int x8), .unset, .unset] [(.int v183)] := Own.zaload r d4_183 V_ac q183.1 (Own.Ix.get q183 g183)
  replace r : A4 l Z n0 D h 5 30 187 #[.val (.ref a), .val (.int x1), .val (.ref bo), .val (.ref bf), .val (.ref bl), .val (.ref bd), .val (.ref bq), .val (.int x7), .val (.int x8), .unset, .unset] [] := Own.ifNo r d4_184 ((if0 _ _).trans (feq br184).1)
  replace r : A4 l Z n0 D h 5 30 189 #[.val (.ref a), .val (.int x1), .val (.ref bo), .val (.ref bf), .val (.ref bl), .val (.ref bd), .val (.ref bq), .val (.int x7), .val (.int x8), .unset, .unset] [(.ref bd)] := Own.aload r d4_187 rfl rfl
  replace r : A4 l Z n0 D h 5 30 191 #[.val (.ref a), .val (.int x1), .val (.ref bo), .val (.ref bf), .val (.ref bl), .val (.ref bd), .val (.ref bq), .val (.int x7), .val (.int x8), .unset, .unset] [(.int x8), (.ref bd)] := Own.iload r d4_189 rfl
  replace r : A4 l Z n0 D h 5 30 192 #[.val (.ref a), .val (.int x1), .val (.ref bo), .val (.ref bf), .val (.ref bl), .val (.ref bd), .val (.ref bq), .val (.int x7), .val (.int x8), .unset, .unset] [(.int (0 : Int32)), (.int x8), (.ref bd)] := Own.iconst r d4_191 rfl
  obtain ⟨h2, ⟨W1, V_bd⟩, r⟩ := Own.iastore r d4_192 V_bd q192.1 (Own.Ix.lt q192 g192) ge_bd
  replace r : A4 l Z n0 D h2 5 30 193 #[.val (.ref a), .val (.int x1), .val (.ref bo), .val (.ref bf), .val (.ref bl), .val (.ref bd), .val (.ref bq), .val (.int x7), .val (.int x8), .unset, .unset] [] := r
  replace F_accepting_a := F_accepting_a.other W1 (Or.inl ne_a_bd)
  replace V_ac := V_ac.other W1 ne_ac_bd
  replace V_bo := V_bo.other W1 ne_bo_bd
  replace V_bf := V_bf.other W1 ne_bf_bd
  replace V_bq := V_bq.other W1 (Ne.symm ne_bd_bq)
  replace Zs := Nat.le_trans Zs (Nat.le_of_eq W1.size.symm)
  replace K := K.wr W1 (Or.inr sz_bd)
  replace V_bd : Own.VA Z h2 bd .int ((DD.set n192 (0 : Int32)).map Value.int) := by rw [List.map_set, ← q192.2]; exact V_bd
  replace r : A4 l Z n0 D h2 5 30 195 #[.val (.ref a), .val (.int x1), .val (.ref bo), .val (.ref bf), .val (.ref bl), .val (.ref bd), .val (.ref bq), .val (.int x7), .val (.int x8), .unset, .unset] [(.ref bq)] := Own.aload r d4_193 rfl rfl
  replace r : A4 l Z n0 D h2 5 30 197 #[.val (.ref a), .val (.int x1), .val (.ref bo), .val (.ref bf), .val (.ref bl), .val (.ref bd), .val (.ref bq), .val (.int x7), .val (.int x8), .unset, .unset] [(.int x7), (.ref bq)] := Own.iload r d4_195 rfl
  replace r : A4 l Z n0 D h2 5 30 200 #[.val (.ref a), .val (.int x1), .val (.ref bo), .val (.ref bf), .val (.ref bl), .val (.ref bd), .val (.ref bq), .val (.int (x7 + (1 : Int32))), .val (.int x8), .unset, .unset] [(.int x7), (.ref bq)] := Own.iinc r d4_197 rfl rfl rfl
  replace r : A4 l Z n0 D h2 5 30 202 #[.val (.ref a), .val (.int x1), .val (.ref bo), .val (.ref bf), .val (.ref bl), .val (.ref bd), .val (.ref bq), .val (.int (x7 + (1 : Int32))), .val (.int x8), .unset, .unset] [(.int x8), (.int x7), (.ref bq)] := Own.iload r d4_200 rfl
  obtain ⟨h4, ⟨W3, V_bq⟩, r⟩ := Own.iastore r d4_202 V_bq q202.1 (Own.Ix.lt q202 g202) ge_bq
  replace r : A4 l Z n0 D h4 5 30 203 #[.val (.ref a), .val (.int x1), .val (.ref bo), .val (.ref bf), .val (.ref bl), .val (.ref bd), .val (.ref bq), .val (.int (x7 + (1 : Int32))), .val (.int x8), .unset, .unset] [] := r
  replace F_accepting_a := F_accepting_a.other W3 (Or.inl ne_a_bq)
  replace V_ac := V_ac.other W3 ne_ac_bq
  replace V_bo := V_bo.other W3 ne_bo_bq
  replace V_bf := V_bf.other W3 ne_bf_bq
  replace V_bd := V_bd.other W3 ne_bd_bq
  replace Zs := Nat.le_trans Zs (Nat.le_of_eq W3.size.symm)
  replace K := K.wr W3 (Or.inr sz_bq)
  replace V_bq : Own.VA Z h4 bq .int ((QQ.set n202 x8).map Value.int) := by rw [List.map_set, ← q202.2]; exact V_bq
  replace r : A4 l Z n0 D h4 5 30 206 #[.val (.ref a), .val (.int x1), .val (.ref bo), .val (.ref bf), .val (.ref bl), .val (.ref bd), .val (.ref bq), .val (.int (x7 + (1 : Int32))), .val (.int (x8 + (1 : Int32))), .unset, .unset] [] := Own.iinc r d4_203 rfl rfl rfl
  replace r : A4 l Z n0 D h4 5 30 171 #[.val (.ref a), .val (.int x1), .val (.ref bo), .val (.ref bf), .val (.ref bl), .val (.ref bd), .val (.ref bq), .val (.int (x7 + (1 : Int32))), .val (.int (x8 + (1 : Int32))), .unset, .unset] [] := Own.goto r d4_206 (by decide) (by decide)
  exact ⟨_, ⟨Zs, K, F_accepting_a, V_ac, V_bo, V_bf, V_bd, V_bq, r⟩⟩
def R212_ (l : Launch) (Z : State) (n0 : Nat) (D : Own.Dyn) (hh : Heap) (a : Addr) (ac : Addr) (bo : Addr) (bf : Addr) (bl : Addr) (bd : Addr) (bq : Addr) (A : List Nat) (x1 : Int32) (O : List Int32) (FR : List Int32) (x7 : Int32) (x8 : Int32) (DD : List Int32) (QQ : List Int32) (h : Heap) : Prop := n0 ≤ h.size ∧ Keep hh h [] ∧ Own.VA Z h bo .int (O.map Value.int) ∧ Own.VA Z h bf .int (FR.map Value.int) ∧ Own.VA Z h bd .int (DD.map Value.int) ∧ Own.VA Z h bq .int (QQ.map Value.int) ∧ ∃ (sl9 : Slot) (sl10 : Slot), (sl9 = .unset ∨ ∃ w, sl9 = .val w ∧ w.category = 1) ∧ (sl10 = .unset ∨ ∃ w, sl10 = .val w ∧ w.category = 1) ∧ A4 l Z n0 D h 5 30 212 #[.val (.ref a), .val (.int x1), .val (.ref bo), .val (.ref bf), .val (.ref bl), .val (.ref bd), .val (.ref bq), .val (.int x7), .val (.int x8), sl9, sl10] []
def R232_ (l : Launch) (Z : State) (n0 : Nat) (D : Own.Dyn) (hh : Heap) (a : Addr) (ac : Addr) (bo : Addr) (bf : Addr) (bl : Addr) (bd : Addr) (bq : Addr) (A : List Nat) (x1 : Int32) (O : List Int32) (FR : List Int32) (x7 : Int32) (x8 : Int32) (x9 : Int32) (x10 : Int32) (DD : List Int32) (QQ : List Int32) (h : Heap) : Prop := n0 ≤ h.size ∧ Keep hh h [] ∧ Own.VA Z h bo .int (O.map Value.int) ∧ Own.VA Z h bf .int (FR.map Value.int) ∧ Own.VA Z h bd .int (DD.map Value.int) ∧ Own.VA Z h bq .int (QQ.map Value.int) ∧ A4 l Z n0 D h 5 30 232 #[.val (.ref a), .val (.int x1), .val (.ref bo), .val (.ref bf), .val (.ref bl), .val (.ref bd), .val (.ref bq), .val (.int x7), .val (.int x8), .val (.int x9), .val (.int x10)] []
set_option maxRecDepth 65536 in
set_option maxHeartbeats 40000000 in
theorem l212 (l : Launch) (Z : State) (a0 : Array Value) (hw : ∀ d ∈ tables_1, d.before a0 Z = true) (n0 : Nat) (D : Own.Dyn) (hh : Heap) (a : Addr) (ac : Addr) (bo : Addr) (bf : Addr) (bl : Addr) (bd : Addr) (bq : Addr) (A : List Nat) (x1 : Int32) (O : List Int32) (FR : List Int32) (x7 : Int32) (x8 : Int32) (DD : List Int32) (QQ : List Int32) (h : Heap) (ne_a_bd : a ≠ bd) (ne_ac_bd : ac ≠ bd) (ne_bo_bd : bo ≠ bd) (ne_bf_bd : bf ≠ bd) (ne_a_bq : a ≠ bq) (ne_ac_bq : ac ≠ bq) (ne_bo_bq : bo ≠ bq) (ne_bf_bq : bf ≠ bq) (ne_bd_bq : bd ≠ bq) (ge_bd : n0 ≤ bd) (ge_bq : n0 ≤ bq) (sz_bd : hh.size ≤ bd) (sz_bq : hh.size ≤ bq) (br216 : x8 < x7) (n223 : Nat) (v223 : Int32) (q223 : Own.Ix x8 n223) (g223 : QQ[n223]? = some v223) (n229 : Nat) (v229 : Int32) (q229 : Own.Ix v223 n229) (g229 : O[n229]? = some v229) (hR : R212_ l Z n0 D hh a ac bo bf bl bd bq A x1 O FR x7 x8 DD QQ h) :
    ∃ (h' : Heap), R232_ l Z n0 D hh a ac bo bf bl bd bq A x1 O FR (x7) (x8) (v223) (v229) (DD) (QQ) h' := by
  obtain ⟨Zs, K, V_bo, V_bf, V_bd, V_bq, sl9, sl10, o_sl9, o_sl10, r⟩ := hR
  replace r : A4 l Z n0 D h 5 30 214 #[.val (.ref a), .val (.int x1), .val (.ref bo), .val (.ref bf), .val (.ref bl), .val (.ref bd), .val (.ref bq), .val (.int x7), .val (.int x8), sl9, sl10] [(.int x8)] := Own.iload r d4_212 rfl
  replace r : A4 l Z n0 D h 5 30 216 #[.val (.ref a), .val (.int x1), .val (.ref bo), .val (.ref bf), .val (.ref bl), .val (.ref bd), .val (.ref bq), .val (.int x7), .val (.int x8), sl9, sl10] [(.int x7), (.int x8)] := Own.iload r d4_214 rfl
  replace r : A4 l Z n0 D h 5 30 219 #[.val (.ref a), .val (.int x1), .val (.ref bo), .val (.ref bf), .val (.ref bl), .val (.ref bd), .val (.ref bq), .val (.int x7), .val (.int x8), sl9, sl10] [] := Own.icmpNo r d4_216 (tlt br216).2.1
  replace r : A4 l Z n0 D h 5 30 221 #[.val (.ref a), .val (.int x1), .val (.ref bo), .val (.ref bf), .val (.ref bl), .val (.ref bd), .val (.ref bq), .val (.int x7), .val (.int x8), sl9, sl10] [(.ref bq)] := Own.aload r d4_219 rfl rfl
  replace r : A4 l Z n0 D h 5 30 223 #[.val (.ref a), .val (.int x1), .val (.ref bo), .val (.ref bf), .val (.ref bl), .val (.ref bd), .val (.ref bq), .val (.int x7), .val (.int x8), sl9, sl10] [(.int x8), (.ref bq)] := Own.iload r d4_221 rfl
  replace r : A4 l Z n0 D h 5 30 224 #[.val (.ref a), .val (.int x1), .val (.ref bo), .val (.ref bf), .val (.ref bl), .val (.ref bd), .val (.ref bq), .val (.int x7), .val (.int x8), sl9, sl10] [(.int v223)] := Own.iaload r d4_223 V_bq q223.1 (Own.Ix.get q223 g223)
  replace r : A4 l Z n0 D h 5 30 226 #[.val (.ref a), .val (.int x1), .val (.ref bo), .val (.ref bf), .val (.ref bl), .val (.ref bd), .val (.ref bq), .val (.int x7), .val (.int x8), .val (.int v223), sl10] [] := Own.istoreS r d4_224 rfl o_sl9
  replace r : A4 l Z n0 D h 5 30 227 #[.val (.ref a), .val (.int x1), .val (.ref bo), .val (.ref bf), .val (.ref bl), .val (.ref bd), .val (.ref bq), .val (.int x7), .val (.int x8), .val (.int v223), sl10] [(.ref bo)] := Own.aloadN r d4_226 rfl rfl
  replace r : A4 l Z n0 D h 5 30 229 #[.val (.ref a), .val (.int x1), .val (.ref bo), .val (.ref bf), .val (.ref bl), .val (.ref bd), .val (.ref bq), .val (.int x7), .val (.int x8), .val (.int v223), sl10] [(.int v223), (.ref bo)] := Own.iload r d4_227 rfl
  replace r : A4 l Z n0 D h 5 30 230 #[.val (.ref a), .val (.int x1), .val (.ref bo), .val (.ref bf), .val (.ref bl), .val (.ref bd), .val (.ref bq), .val (.int x7), .val (.int x8), .val (.int v223), sl10] [(.int v229)] := Own.iaload r d4_229 V_bo q229.1 (Own.Ix.get q229 g229)
  replace r : A4 l Z n0 D h 5 30 232 #[.val (.ref a), .val (.int x1), .val (.ref bo), .val (.ref bf), .val (.ref bl), .val (.ref bd), .val (.ref bq), .val (.int x7), .val (.int x8), .val (.int v223), .val (.int v229)] [] := Own.istoreS r d4_230 rfl o_sl10
  exact ⟨_, ⟨Zs, K, V_bo, V_bf, V_bd, V_bq, r⟩⟩
set_option maxRecDepth 65536 in
set_option maxHeartbeats 40000000 in
theorem l232n (l : Launch) (Z : State) (a0 : Array Value) (hw : ∀ d ∈ tables_1, d.before a0 Z = true) (n0 : Nat) (D : Own.Dyn) (hh : Heap) (a : Addr) (ac : Addr) (bo : Addr) (bf : Addr) (bl : Addr) (bd : Addr) (bq : Addr) (A : List Nat) (x1 : Int32) (O : List Int32) (FR : List Int32) (x7 : Int32) (x8 : Int32) (x9 : Int32) (x10 : Int32) (DD : List Int32) (QQ : List Int32) (h : Heap) (ne_a_bd : a ≠ bd) (ne_ac_bd : ac ≠ bd) (ne_bo_bd : bo ≠ bd) (ne_bf_bd : bf ≠ bd) (ne_a_bq : a ≠ bq) (ne_ac_bq : ac ≠ bq) (ne_bo_bq : bo ≠ bq) (ne_bf_bq : bf ≠ bq) (ne_bd_bq : bd ≠ bq) (ge_bd : n0 ≤ bd) (ge_bq : n0 ≤ bq) (sz_bd : hh.size ≤ bd) (sz_bq : hh.size ≤ bq) (n239 : Nat) (v239 : Int32) (q239 : Own.Ix (x9 + (1 : Int32)) n239) (g239 : O[n239]? = some v239) (br240 : x10 < v239) (n248 : Nat) (v248 : Int32) (q248 : Own.Ix x10 n248) (g248 : FR[n248]? = some v248) (n249 : Nat) (v249 : Int32) (q249 : Own.Ix v248 n249) (g249 : DD[n249]? = some v249) (br250 : ¬ (v249 < (0 : Int32))) (hR : R232_ l Z n0 D hh a ac bo bf bl bd bq A x1 O FR x7 x8 x9 x10 DD QQ h) :
    ∃ (h' : Heap), R232_ l Z n0 D hh a ac bo bf bl bd bq A x1 O FR (x7) (x8) (x9) ((x10 + (1 : Int32))) (DD) (QQ) h' := by
  obtain ⟨Zs, K, V_bo, V_bf, V_bd, V_bq, r⟩ := hR
  replace r : A4 l Z n0 D h 5 30 234 #[.val (.ref a), .val (.int x1), .val (.ref bo), .val (.ref bf), .val (.ref bl), .val (.ref bd), .val (.ref bq), .val (.int x7), .val (.int x8), .val (.int x9), .val (.int x10)] [(.int x10)] := Own.iload r d4_232 rfl
  replace r : A4 l Z n0 D h 5 30 235 #[.val (.ref a), .val (.int x1), .val (.ref bo), .val (.ref bf), .val (.ref bl), .val (.ref bd), .val (.ref bq), .val (.int x7), .val (.int x8), .val (.int x9), .val (.int x10)] [(.ref bo), (.int x10)] := Own.aloadN r d4_234 rfl rfl
  replace r : A4 l Z n0 D h 5 30 237 #[.val (.ref a), .val (.int x1), .val (.ref bo), .val (.ref bf), .val (.ref bl), .val (.ref bd), .val (.ref bq), .val (.int x7), .val (.int x8), .val (.int x9), .val (.int x10)] [(.int x9), (.ref bo), (.int x10)] := Own.iload r d4_235 rfl
  replace r : A4 l Z n0 D h 5 30 238 #[.val (.ref a), .val (.int x1), .val (.ref bo), .val (.ref bf), .val (.ref bl), .val (.ref bd), .val (.ref bq), .val (.int x7), .val (.int x8), .val (.int x9), .val (.int x10)] [(.int (1 : Int32)), (.int x9), (.ref bo), (.int x10)] := Own.iconst r d4_237 rfl
  replace r : A4 l Z n0 D h 5 30 239 #[.val (.ref a), .val (.int x1), .val (.ref bo), .val (.ref bf), .val (.ref bl), .val (.ref bd), .val (.ref bq), .val (.int x7), .val (.int x8), .val (.int x9), .val (.int x10)] [(.int (x9 + (1 : Int32))), (.ref bo), (.int x10)] := Own.iadd r d4_238
  replace r : A4 l Z n0 D h 5 30 240 #[.val (.ref a), .val (.int x1), .val (.ref bo), .val (.ref bf), .val (.ref bl), .val (.ref bd), .val (.ref bq), .val (.int x7), .val (.int x8), .val (.int x9), .val (.int x10)] [(.int v239), (.int x10)] := Own.iaload r d4_239 V_bo q239.1 (Own.Ix.get q239 g239)
  replace r : A4 l Z n0 D h 5 30 243 #[.val (.ref a), .val (.int x1), .val (.ref bo), .val (.ref bf), .val (.ref bl), .val (.ref bd), .val (.ref bq), .val (.int x7), .val (.int x8), .val (.int x9), .val (.int x10)] [] := Own.icmpNo r d4_240 (tlt br240).2.1
  replace r : A4 l Z n0 D h 5 30 245 #[.val (.ref a), .val (.int x1), .val (.ref bo), .val (.ref bf), .val (.ref bl), .val (.ref bd), .val (.ref bq), .val (.int x7), .val (.int x8), .val (.int x9), .val (.int x10)] [(.ref bd)] := Own.aload r d4_243 rfl rfl
  replace r : A4 l Z n0 D h 5 30 246 #[.val (.ref a), .val (.int x1), .val (.ref bo), .val (.ref bf), .val (.ref bl), .val (.ref bd), .val (.ref bq), .val (.int x7), .val (.int x8), .val (.int x9), .val (.int x10)] [(.ref bf), (.ref bd)] := Own.aloadN r d4_245 rfl rfl
  replace r : A4 l Z n0 D h 5 30 248 #[.val (.ref a), .val (.int x1), .val (.ref bo), .val (.ref bf), .val (.ref bl), .val (.ref bd), .val (.ref bq), .val (.int x7), .val (.int x8), .val (.int x9), .val (.int x10)] [(.int x10), (.ref bf), (.ref bd)] := Own.iload r d4_246 rfl
  replace r : A4 l Z n0 D h 5 30 249 #[.val (.ref a), .val (.int x1), .val (.ref bo), .val (.ref bf), .val (.ref bl), .val (.ref bd), .val (.ref bq), .val (.int x7), .val (.int x8), .val (.int x9), .val (.int x10)] [(.int v248), (.ref bd)] := Own.iaload r d4_248 V_bf q248.1 (Own.Ix.get q248 g248)
  replace r : A4 l Z n0 D h 5 30 250 #[.val (.ref a), .val (.int x1), .val (.ref bo), .val (.ref bf), .val (.ref bl), .val (.ref bd), .val (.ref bq), .val (.int x7), .val (.int x8), .val (.int x9), .val (.int x10)] [(.int v249)] := Own.iaload r d4_249 V_bd q249.1 (Own.Ix.get q249 g249)
  replace r : A4 l Z n0 D h 5 30 279 #[.val (.ref a), .val (.int x1), .val (.ref bo), .val (.ref bf), .val (.ref bl), .val (.ref bd), .val (.ref bq), .val (.int x7), .val (.int x8), .val (.int x9), .val (.int x10)] [] := Own.ifYes r d4_250 ((if0 _ _).trans (flt br250).2.1) (by decide) (by decide)
  replace r : A4 l Z n0 D h 5 30 282 #[.val (.ref a), .val (.int x1), .val (.ref bo), .val (.ref bf), .val (.ref bl), .val (.ref bd), .val (.ref bq), .val (.int x7), .val (.int x8), .val (.int x9), .val (.int (x10 + (1 : Int32)))] [] := Own.iinc r d4_279 rfl rfl rfl
  replace r : A4 l Z n0 D h 5 30 232 #[.val (.ref a), .val (.int x1), .val (.ref bo), .val (.ref bf), .val (.ref bl), .val (.ref bd), .val (.ref bq), .val (.int x7), .val (.int x8), .val (.int x9), .val (.int (x10 + (1 : Int32)))] [] := Own.goto r d4_282 (by decide) (by decide)
  exact ⟨_, ⟨Zs, K, V_bo, V_bf, V_bd, V_bq, r⟩⟩
set_option maxRecDepth 65536 in
set_option maxHeartbeats 40000000 in
theorem l232p (l : Launch) (Z : State) (a0 : Array Value) (hw : ∀ d ∈ tables_1, d.before a0 Z = true) (n0 : Nat) (D : Own.Dyn) (hh : Heap) (a : Addr) (ac : Addr) (bo : Addr) (bf : Addr) (bl : Addr) (bd : Addr) (bq : Addr) (A : List Nat) (x1 : Int32) (O : List Int32) (FR : List Int32) (x7 : Int32) (x8 : Int32) (x9 : Int32) (x10 : Int32) (DD : List Int32) (QQ : List Int32) (h : Heap) (ne_a_bd : a ≠ bd) (ne_ac_bd : ac ≠ bd) (ne_bo_bd : bo ≠ bd) (ne_bf_bd : bf ≠ bd) (ne_a_bq : a ≠ bq) (ne_ac_bq : ac ≠ bq) (ne_bo_bq : bo ≠ bq) (ne_bf_bq : bf ≠ bq) (ne_bd_bq : bd ≠ bq) (ge_bd : n0 ≤ bd) (ge_bq : n0 ≤ bq) (sz_bd : hh.size ≤ bd) (sz_bq : hh.size ≤ bq) (n239 : Nat) (v239 : Int32) (q239 : Own.Ix (x9 + (1 : Int32)) n239) (g239 : O[n239]? = some v239) (br240 : x10 < v239) (n248 : Nat) (v248 : Int32) (q248 : Own.Ix x10 n248) (g248 : FR[n248]? = some v248) (n249 : Nat) (v249 : Int32) (q249 : Own.Ix v248 n249) (g249 : DD[n249]? = some v249) (br250 : v249 < (0 : Int32)) (n258 : Nat) (v258 : Int32) (q258 : Own.Ix x10 n258) (g258 : FR[n258]? = some v258) (n263 : Nat) (v263 : Int32) (q263 : Own.Ix x9 n263) (g263 : DD[n263]? = some v263) (n266 : Nat) (q266 : Own.Ix v258 n266) (g266 : n266 < DD.length) (n277 : Nat) (v277 : Int32) (q277 : Own.Ix x10 n277) (g277 : FR[n277]? = some v277) (n278 : Nat) (q278 : Own.Ix x7 n278) (g278 : n278 < QQ.length) (hR : R232_ l Z n0 D hh a ac bo bf bl bd bq A x1 O FR x7 x8 x9 x10 DD QQ h) :
    ∃ (h' : Heap), R232_ l Z n0 D hh a ac bo bf bl bd bq A x1 O FR ((x7 + (1 : Int32))) (x8) (x9) ((x10 + (1 : Int32))) ((DD.set n266 (v263 + (1 : Int32)))) ((QQ.set n278 v277)) h' := by
  obtain ⟨Zs, K, V_bo, V_bf, V_bd, V_bq, r⟩ := hR
  replace r : A4 l Z n0 D h 5 30 234 #[.val (.ref a), .val (.int x1), .val (.ref bo), .val (.ref bf), .val (.ref bl), .val (.ref bd), .val (.ref bq), .val (.int x7), .val (.int x8), .val (.int x9), .val (.int x10)] [(.int x10)] := Own.iload r d4_232 rfl
  replace r : A4 l Z n0 D h 5 30 235 #[.val (.ref a), .val (.int x1), .val (.ref bo), .val (.ref bf), .val (.ref bl), .val (.ref bd), .val (.ref bq), .val (.int x7), .val (.int x8), .val (.int x9), .val (.int x10)] [(.ref bo), (.int x10)] := Own.aloadN r d4_234 rfl rfl
  replace r : A4 l Z n0 D h 5 30 237 #[.val (.ref a), .val (.int x1), .val (.ref bo), .val (.ref bf), .val (.ref bl), .val (.ref bd), .val (.ref bq), .val (.int x7), .val (.int x8), .val (.int x9), .val (.int x10)] [(.int x9), (.ref bo), (.int x10)] := Own.iload r d4_235 rfl
  replace r : A4 l Z n0 D h 5 30 238 #[.val (.ref a), .val (.int x1), .val (.ref bo), .val (.ref bf), .val (.ref bl), .val (.ref bd), .val (.ref bq), .val (.int x7), .val (.int x8), .val (.int x9), .val (.int x10)] [(.int (1 : Int32)), (.int x9), (.ref bo), (.int x10)] := Own.iconst r d4_237 rfl
  replace r : A4 l Z n0 D h 5 30 239 #[.val (.ref a), .val (.int x1), .val (.ref bo), .val (.ref bf), .val (.ref bl), .val (.ref bd), .val (.ref bq), .val (.int x7), .val (.int x8), .val (.int x9), .val (.int x10)] [(.int (x9 + (1 : Int32))), (.ref bo), (.int x10)] := Own.iadd r d4_238
  replace r : A4 l Z n0 D h 5 30 240 #[.val (.ref a), .val (.int x1), .val (.ref bo), .val (.ref bf), .val (.ref bl), .val (.ref bd), .val (.ref bq), .val (.int x7), .val (.int x8), .val (.int x9), .val (.int x10)] [(.int v239), (.int x10)] := Own.iaload r d4_239 V_bo q239.1 (Own.Ix.get q239 g239)
  replace r : A4 l Z n0 D h 5 30 243 #[.val (.ref a), .val (.int x1), .val (.ref bo), .val (.ref bf), .val (.ref bl), .val (.ref bd), .val (.ref bq), .val (.int x7), .val (.int x8), .val (.int x9), .val (.int x10)] [] := Own.icmpNo r d4_240 (tlt br240).2.1
  replace r : A4 l Z n0 D h 5 30 245 #[.val (.ref a), .val (.int x1), .val (.ref bo), .val (.ref bf), .val (.ref bl), .val (.ref bd), .val (.ref bq), .val (.int x7), .val (.int x8), .val (.int x9), .val (.int x10)] [(.ref bd)] := Own.aload r d4_243 rfl rfl
  replace r : A4 l Z n0 D h 5 30 246 #[.val (.ref a), .val (.int x1), .val (.ref bo), .val (.ref bf), .val (.ref bl), .val (.ref bd), .val (.ref bq), .val (.int x7), .val (.int x8), .val (.int x9), .val (.int x10)] [(.ref bf), (.ref bd)] := Own.aloadN r d4_245 rfl rfl
  replace r : A4 l Z n0 D h 5 30 248 #[.val (.ref a), .val (.int x1), .val (.ref bo), .val (.ref bf), .val (.ref bl), .val (.ref bd), .val (.ref bq), .val (.int x7), .val (.int x8), .val (.int x9), .val (.int x10)] [(.int x10), (.ref bf), (.ref bd)] := Own.iload r d4_246 rfl
  replace r : A4 l Z n0 D h 5 30 249 #[.val (.ref a), .val (.int x1), .val (.ref bo), .val (.ref bf), .val (.ref bl), .val (.ref bd), .val (.ref bq), .val (.int x7), .val (.int x8), .val (.int x9), .val (.int x10)] [(.int v248), (.ref bd)] := Own.iaload r d4_248 V_bf q248.1 (Own.Ix.get q248 g248)
  replace r : A4 l Z n0 D h 5 30 250 #[.val (.ref a), .val (.int x1), .val (.ref bo), .val (.ref bf), .val (.ref bl), .val (.ref bd), .val (.ref bq), .val (.int x7), .val (.int x8), .val (.int x9), .val (.int x10)] [(.int v249)] := Own.iaload r d4_249 V_bd q249.1 (Own.Ix.get q249 g249)
  replace r : A4 l Z n0 D h 5 30 253 #[.val (.ref a), .val (.int x1), .val (.ref bo), .val (.ref bf), .val (.ref bl), .val (.ref bd), .val (.ref bq), .val (.int x7), .val (.int x8), .val (.int x9), .val (.int x10)] [] := Own.ifNo r d4_250 ((if0 _ _).trans (tlt br250).2.1)
  replace r : A4 l Z n0 D h 5 30 255 #[.val (.ref a), .val (.int x1), .val (.ref bo), .val (.ref bf), .val (.ref bl), .val (.ref bd), .val (.ref bq), .val (.int x7), .val (.int x8), .val (.int x9), .val (.int x10)] [(.ref bd)] := Own.aload r d4_253 rfl rfl
  replace r : A4 l Z n0 D h 5 30 256 #[.val (.ref a), .val (.int x1), .val (.ref bo), .val (.ref bf), .val (.ref bl), .val (.ref bd), .val (.ref bq), .val (.int x7), .val (.int x8), .val (.int x9), .val (.int x10)] [(.ref bf), (.ref bd)] := Own.aloadN r d4_255 rfl rfl
  replace r : A4 l Z n0 D h 5 30 258 #[.val (.ref a), .val (.int x1), .val (.ref bo), .val (.ref bf), .val (.ref bl), .val (.ref bd), .val (.ref bq), .val (.int x7), .val (.int x8), .val (.int x9), .val (.int x10)] [(.int x10), (.ref bf), (.ref bd)] := Own.iload r d4_256 rfl
  replace r : A4 l Z n0 D h 5 30 259 #[.val (.ref a), .val (.int x1), .val (.ref bo), .val (.ref bf), .val (.ref bl), .val (.ref bd), .val (.ref bq), .val (.int x7), .val (.int x8), .val (.int x9), .val (.int x10)] [(.int v258), (.ref bd)] := Own.iaload r d4_258 V_bf q258.1 (Own.Ix.get q258 g258)
  replace r : A4 l Z n0 D h 5 30 261 #[.val (.ref a), .val (.int x1), .val (.ref bo), .val (.ref bf), .val (.ref bl), .val (.ref bd), .val (.ref bq), .val (.int x7), .val (.int x8), .val (.int x9), .val (.int x10)] [(.ref bd), (.int v258), (.ref bd)] := Own.aload r d4_259 rfl rfl
  replace r : A4 l Z n0 D h 5 30 263 #[.val (.ref a), .val (.int x1), .val (.ref bo), .val (.ref bf), .val (.ref bl), .val (.ref bd), .val (.ref bq), .val (.int x7), .val (.int x8), .val (.int x9), .val (.int x10)] [(.int x9), (.ref bd), (.int v258), (.ref bd)] := Own.iload r d4_261 rfl
  replace r : A4 l Z n0 D h 5 30 264 #[.val (.ref a), .val (.int x1), .val (.ref bo), .val (.ref bf), .val (.ref bl), .val (.ref bd), .val (.ref bq), .val (.int x7), .val (.int x8), .val (.int x9), .val (.int x10)] [(.int v263), (.int v258), (.ref bd)] := Own.iaload r d4_263 V_bd q263.1 (Own.Ix.get q263 g263)
  replace r : A4 l Z n0 D h 5 30 265 #[.val (.ref a), .val (.int x1), .val (.ref bo), .val (.ref bf), .val (.ref bl), .val (.ref bd), .val (.ref bq), .val (.int x7), .val (.int x8), .val (.int x9), .val (.int x10)] [(.int (1 : Int32)), (.int v263), (.int v258), (.ref bd)] := Own.iconst r d4_264 rfl
  replace r : A4 l Z n0 D h 5 30 266 #[.val (.ref a), .val (.int x1), .val (.ref bo), .val (.ref bf), .val (.ref bl), .val (.ref bd), .val (.ref bq), .val (.int x7), .val (.int x8), .val (.int x9), .val (.int x10)] [(.int (v263 + (1 : Int32))), (.int v258), (.ref bd)] := Own.iadd r d4_265
  obtain ⟨h2, ⟨W1, V_bd⟩, r⟩ := Own.iastore r d4_266 V_bd q266.1 (Own.Ix.lt q266 g266) ge_bd
  replace r : A4 l Z n0 D h2 5 30 267 #[.val (.ref a), .val (.int x1), .val (.ref bo), .val (.ref bf), .val (.ref bl), .val (.ref bd), .val (.ref bq), .val (.int x7), .val (.int x8), .val (.int x9), .val (.int x10)] [] := r
  replace V_bo := V_bo.other W1 ne_bo_bd
  replace V_bf := V_bf.other W1 ne_bf_bd
  replace V_bq := V_bq.other W1 (Ne.symm ne_bd_bq)
  replace Zs := Nat.le_trans Zs (Nat.le_of_eq W1.size.symm)
  replace K := K.wr W1 (Or.inr sz_bd)
  replace V_bd : Own.VA Z h2 bd .int ((DD.set n266 (v263 + (1 : Int32))).map Value.int) := by rw [List.map_set, ← q266.2]; exact V_bd
  replace r : A4 l Z n0 D h2 5 30 269 #[.val (.ref a), .val (.int x1), .val (.ref bo), .val (.ref bf), .val (.ref bl), .val (.ref bd), .val (.ref bq), .val (.int x7), .val (.int x8), .val (.int x9), .val (.int x10)] [(.ref bq)] := Own.aload r d4_267 rfl rfl
  replace r : A4 l Z n0 D h2 5 30 271 #[.val (.ref a), .val (.int x1), .val (.ref bo), .val (.ref bf), .val (.ref bl), .val (.ref bd), .val (.ref bq), .val (.int x7), .val (.int x8), .val (.int x9), .val (.int x10)] [(.int x7), (.ref bq)] := Own.iload r d4_269 rfl
  replace r : A4 l Z n0 D h2 5 30 274 #[.val (.ref a), .val (.int x1), .val (.ref bo), .val (.ref bf), .val (.ref bl), .val (.ref bd), .val (.ref bq), .val (.int (x7 + (1 : Int32))), .val (.int x8), .val (.int x9), .val (.int x10)] [(.int x7), (.ref bq)] := Own.iinc r d4_271 rfl rfl rfl
  replace r : A4 l Z n0 D h2 5 30 275 #[.val (.ref a), .val (.int x1), .val (.ref bo), .val (.ref bf), .val (.ref bl), .val (.ref bd), .val (.ref bq), .val (.int (x7 + (1 : Int32))), .val (.int x8), .val (.int x9), .val (.int x10)] [(.ref bf), (.int x7), (.ref bq)] := Own.aloadN r d4_274 rfl rfl
  replace r : A4 l Z n0 D h2 5 30 277 #[.val (.ref a), .val (.int x1), .val (.ref bo), .val (.ref bf), .val (.ref bl), .val (.ref bd), .val (.ref bq), .val (.int (x7 + (1 : Int32))), .val (.int x8), .val (.int x9), .val (.int x10)] [(.int x10), (.ref bf), (.int x7), (.ref bq)] := Own.iload r d4_275 rfl
  replace r : A4 l Z n0 D h2 5 30 278 #[.val (.ref a), .val (.int x1), .val (.ref bo), .val (.ref bf), .val (.ref bl), .val (.ref bd), .val (.ref bq), .val (.int (x7 + (1 : Int32))), .val (.int x8), .val (.int x9), .val (.int x10)] [(.int v277), (.int x7), (.ref bq)] := Own.iaload r d4_277 V_bf q277.1 (Own.Ix.get q277 g277)
  obtain ⟨h4, ⟨W3, V_bq⟩, r⟩ := Own.iastore r d4_278 V_bq q278.1 (Own.Ix.lt q278 g278) ge_bq
  replace r : A4 l Z n0 D h4 5 30 279 #[.val (.ref a), .val (.int x1), .val (.ref bo), .val (.ref bf), .val (.ref bl), .val (.ref bd), .val (.ref bq), .val (.int (x7 + (1 : Int32))), .val (.int x8), .val (.int x9), .val (.int x10)] [] := r
  replace V_bo := V_bo.other W3 ne_bo_bq
  replace V_bf := V_bf.other W3 ne_bf_bq
  replace V_bd := V_bd.other W3 ne_bd_bq
  replace Zs := Nat.le_trans Zs (Nat.le_of_eq W3.size.symm)
  replace K := K.wr W3 (Or.inr sz_bq)
  replace V_bq : Own.VA Z h4 bq .int ((QQ.set n278 v277).map Value.int) := by rw [List.map_set, ← q278.2]; exact V_bq
  replace r : A4 l Z n0 D h4 5 30 282 #[.val (.ref a), .val (.int x1), .val (.ref bo), .val (.ref bf), .val (.ref bl), .val (.ref bd), .val (.ref bq), .val (.int (x7 + (1 : Int32))), .val (.int x8), .val (.int x9), .val (.int (x10 + (1 : Int32)))] [] := Own.iinc r d4_279 rfl rfl rfl
  replace r : A4 l Z n0 D h4 5 30 232 #[.val (.ref a), .val (.int x1), .val (.ref bo), .val (.ref bf), .val (.ref bl), .val (.ref bd), .val (.ref bq), .val (.int (x7 + (1 : Int32))), .val (.int x8), .val (.int x9), .val (.int (x10 + (1 : Int32)))] [] := Own.goto r d4_282 (by decide) (by decide)
  exact ⟨_, ⟨Zs, K, V_bo, V_bf, V_bd, V_bq, r⟩⟩
set_option maxRecDepth 65536 in
set_option maxHeartbeats 40000000 in
theorem l232x (l : Launch) (Z : State) (a0 : Array Value) (hw : ∀ d ∈ tables_1, d.before a0 Z = true) (n0 : Nat) (D : Own.Dyn) (hh : Heap) (a : Addr) (ac : Addr) (bo : Addr) (bf : Addr) (bl : Addr) (bd : Addr) (bq : Addr) (A : List Nat) (x1 : Int32) (O : List Int32) (FR : List Int32) (x7 : Int32) (x8 : Int32) (x9 : Int32) (x10 : Int32) (DD : List Int32) (QQ : List Int32) (h : Heap) (ne_a_bd : a ≠ bd) (ne_ac_bd : ac ≠ bd) (ne_bo_bd : bo ≠ bd) (ne_bf_bd : bf ≠ bd) (ne_a_bq : a ≠ bq) (ne_ac_bq : ac ≠ bq) (ne_bo_bq : bo ≠ bq) (ne_bf_bq : bf ≠ bq) (ne_bd_bq : bd ≠ bq) (ge_bd : n0 ≤ bd) (ge_bq : n0 ≤ bq) (sz_bd : hh.size ≤ bd) (sz_bq : hh.size ≤ bq) (n239 : Nat) (v239 : Int32) (q239 : Own.Ix (x9 + (1 : Int32)) n239) (g239 : O[n239]? = some v239) (br240 : ¬ (x10 < v239)) (hR : R232_ l Z n0 D hh a ac bo bf bl bd bq A x1 O FR x7 x8 x9 x10 DD QQ h) :
    ∃ (h' : Heap), R212_ l Z n0 D hh a ac bo bf bl bd bq A x1 O FR (x7) ((x8 + (1 : Int32))) (DD) (QQ) h' := by
  obtain ⟨Zs, K, V_bo, V_bf, V_bd, V_bq, r⟩ := hR
  replace r : A4 l Z n0 D h 5 30 234 #[.val (.ref a), .val (.int x1), .val (.ref bo), .val (.ref bf), .val (.ref bl), .val (.ref bd), .val (.ref bq), .val (.int x7), .val (.int x8), .val (.int x9), .val (.int x10)] [(.int x10)] := Own.iload r d4_232 rfl
  replace r : A4 l Z n0 D h 5 30 235 #[.val (.ref a), .val (.int x1), .val (.ref bo), .val (.ref bf), .val (.ref bl), .val (.ref bd), .val (.ref bq), .val (.int x7), .val (.int x8), .val (.int x9), .val (.int x10)] [(.ref bo), (.int x10)] := Own.aloadN r d4_234 rfl rfl
  replace r : A4 l Z n0 D h 5 30 237 #[.val (.ref a), .val (.int x1), .val (.ref bo), .val (.ref bf), .val (.ref bl), .val (.ref bd), .val (.ref bq), .val (.int x7), .val (.int x8), .val (.int x9), .val (.int x10)] [(.int x9), (.ref bo), (.int x10)] := Own.iload r d4_235 rfl
  replace r : A4 l Z n0 D h 5 30 238 #[.val (.ref a), .val (.int x1), .val (.ref bo), .val (.ref bf), .val (.ref bl), .val (.ref bd), .val (.ref bq), .val (.int x7), .val (.int x8), .val (.int x9), .val (.int x10)] [(.int (1 : Int32)), (.int x9), (.ref bo), (.int x10)] := Own.iconst r d4_237 rfl
  replace r : A4 l Z n0 D h 5 30 239 #[.val (.ref a), .val (.int x1), .val (.ref bo), .val (.ref bf), .val (.ref bl), .val (.ref bd), .val (.ref bq), .val (.int x7), .val (.int x8), .val (.int x9), .val (.int x10)] [(.int (x9 + (1 : Int32))), (.ref bo), (.int x10)] := Own.iadd r d4_238
  replace r : A4 l Z n0 D h 5 30 240 #[.val (.ref a), .val (.int x1), .val (.ref bo), .val (.ref bf), .val (.ref bl), .val (.ref bd), .val (.ref bq), .val (.int x7), .val (.int x8), .val (.int x9), .val (.int x10)] [(.int v239), (.int x10)] := Own.iaload r d4_239 V_bo q239.1 (Own.Ix.get q239 g239)
  replace r : A4 l Z n0 D h 5 30 285 #[.val (.ref a), .val (.int x1), .val (.ref bo), .val (.ref bf), .val (.ref bl), .val (.ref bd), .val (.ref bq), .val (.int x7), .val (.int x8), .val (.int x9), .val (.int x10)] [] := Own.icmpYes r d4_240 (flt br240).2.1 (by decide) (by decide)
  replace r : A4 l Z n0 D h 5 30 288 #[.val (.ref a), .val (.int x1), .val (.ref bo), .val (.ref bf), .val (.ref bl), .val (.ref bd), .val (.ref bq), .val (.int x7), .val (.int (x8 + (1 : Int32))), .val (.int x9), .val (.int x10)] [] := Own.iinc r d4_285 rfl rfl rfl
  replace r : A4 l Z n0 D h 5 30 212 #[.val (.ref a), .val (.int x1), .val (.ref bo), .val (.ref bf), .val (.ref bl), .val (.ref bd), .val (.ref bq), .val (.int x7), .val (.int (x8 + (1 : Int32))), .val (.int x9), .val (.int x10)] [] := Own.goto r d4_288 (by decide) (by decide)
  exact ⟨_, ⟨Zs, K, V_bo, V_bf, V_bd, V_bq, (.val (.int x9)), (.val (.int x10)), (Or.inr ⟨_, rfl, rfl⟩), (Or.inr ⟨_, rfl, rfl⟩), r⟩⟩
theorem own_l24 (l : Launch) (Z : State) (a0 : Array Value) (hw : ∀ d ∈ tables_1, d.before a0 Z = true) (n0 : Nat) (D : Own.Dyn) (hh : Heap) (a : Addr) (st : Addr) (tb : Addr) (ac : Addr) (bo : Addr) (T : List Nat) (A : List Nat) (SL : List Int32) (x1 : Int32) (x4 : Int32) (ne_a_bo : a ≠ bo) (ne_st_bo : st ≠ bo) (ne_tb_bo : tb ≠ bo) (ne_ac_bo : ac ≠ bo) (ge_bo : n0 ≤ bo) (sz_bo : hh.size ≤ bo) (hT : ∀ t ∈ T, t < 100) (hTl : T.length < 100) (e4 : x4 = Own.I T.length) (r pre off off' : List Nat) (h : Heap) (eT : T = pre ++ r) (hm : Own.m24 r off = some off') (hR : R24 l Z n0 D hh a st tb ac bo T A SL x1 x4 (Own.I pre.length) (off.map Own.I) h) :
    ∃ h', R24 l Z n0 D hh a st tb ac bo T A SL x1 x4 (Own.I T.length) (off'.map Own.I) h' := by
  induction r generalizing pre off h with
  | nil => cases hm; rw [List.append_nil] at eT; rw [eT] at hR ⊢; exact ⟨h, hR⟩
  | cons t r ih =>
    have hg : T[pre.length]? = some t := by rw [eT]; simp
    have hp : pre.length < T.length := Own.getlt hg
    have ht : t < 100 := hT t (by rw [eT]; simp)
    have hb : Own.I pre.length < x4 := by rw [e4]; exact (Own.I_lt (by omega) (by omega)).mpr hp
    cases t with
    | zero =>
      obtain ⟨h', hR'⟩ := l24n l Z a0 hw n0 D hh a st tb ac bo T A SL x1 x4 (Own.I pre.length) (off.map Own.I) h ne_a_bo ne_st_bo ne_tb_bo ne_ac_bo ge_bo sz_bo hb pre.length (Own.J 0) (Own.Ix.i (by omega)) (Own.getM hg) ((Own.J_neg (by omega)).mpr rfl) hR
      rw [Own.I_add] at hR'
      exact ih (pre ++ [0]) off h' (by rw [eT]; simp) hm (by rw [List.length_append]; exact hR')
    | succ t =>
      simp only [Own.m24] at hm
      cases ho : off[t + 1]? with
      | none => rw [ho] at hm; cases hm
      | some o =>
        rw [ho] at hm
        have hi : Own.Ix (Own.J (t + 1) + 1) (t + 1) := by rw [Own.J_add]; exact Own.Ix.j (by omega)
        obtain ⟨h', hR'⟩ := l24p l Z a0 hw n0 D hh a st tb ac bo T A SL x1 x4 (Own.I pre.length) (off.map Own.I) h ne_a_bo ne_st_bo ne_tb_bo ne_ac_bo ge_bo sz_bo hb pre.length (Own.J (t + 1)) (Own.Ix.i (by omega)) (Own.getM hg) (fun q => by have := (Own.J_neg (by omega)).mp q; omega) (t + 1) (Own.I o) hi (Own.getM ho) (t + 1) hi (Own.ltM (Own.getlt ho)) hR
        rw [Own.I_add, Own.I_add, ← List.map_set] at hR'
        exact ih (pre ++ [t + 1]) _ h' (by rw [eT]; simp) hm (by rw [List.length_append]; exact hR')
theorem own_l60 (l : Launch) (Z : State) (a0 : Array Value) (hw : ∀ d ∈ tables_1, d.before a0 Z = true) (n0 : Nat) (D : Own.Dyn) (hh : Heap) (a : Addr) (st : Addr) (tb : Addr) (ac : Addr) (bo : Addr) (T : List Nat) (A : List Nat) (SL : List Int32) (x1 : Int32) (ne_a_bo : a ≠ bo) (ne_st_bo : st ≠ bo) (ne_tb_bo : tb ≠ bo) (ne_ac_bo : ac ≠ bo) (ge_bo : n0 ≤ bo) (sz_bo : hh.size ≤ bo) (S : Nat) (hS : S < 100) (e1 : x1 = Own.I S) (f i : Nat) (off off' : List Nat) (h : Heap) (hf : i + f = S) (hm : Own.m60 f i off = some off') (hR : R60 l Z n0 D hh a st tb ac bo T A SL x1 (Own.I i) (off.map Own.I) h) :
    ∃ h', R60 l Z n0 D hh a st tb ac bo T A SL x1 (Own.I S) (off'.map Own.I) h' := by
  induction f generalizing i off h with
  | zero => cases hm; rw [← hf]; exact ⟨h, hR⟩
  | succ f ih =>
    simp only [Own.m60] at hm
    cases ha : off[i + 1]? with
    | none => rw [ha] at hm; cases hm
    | some a' =>
      cases hb : off[i]? with
      | none => rw [ha, hb] at hm; cases hm
      | some b' =>
        rw [ha, hb] at hm
        obtain ⟨h', hR'⟩ := l60 l Z a0 hw n0 D hh a st tb ac bo T A SL x1 (Own.I i) (off.map Own.I) h ne_a_bo ne_st_bo ne_tb_bo ne_ac_bo ge_bo sz_bo (by rw [e1]; exact (Own.I_lt (by omega) (by omega)).mpr (by omega)) (i + 1) (Own.I a') (Own.Ix.i1 (by omega)) (Own.getM ha) i (Own.I b') (Own.Ix.i (by omega)) (Own.getM hb) (i + 1) (Own.Ix.i1 (by omega)) (Own.ltM (Own.getlt ha)) hR
        rw [Own.I_add, Own.I_adds, ← List.map_set] at hR'
        exact ih (i + 1) _ h' (by omega) hm hR'
theorem own_l98 (l : Launch) (Z : State) (a0 : Array Value) (hw : ∀ d ∈ tables_1, d.before a0 Z = true) (n0 : Nat) (D : Own.Dyn) (hh : Heap) (a : Addr) (st : Addr) (tb : Addr) (ac : Addr) (bo : Addr) (bf : Addr) (bl : Addr) (T : List Nat) (A : List Nat) (SL : List Int32) (x1 : Int32) (O : List Int32) (ne_a_bf : a ≠ bf) (ne_st_bf : st ≠ bf) (ne_tb_bf : tb ≠ bf) (ne_ac_bf : ac ≠ bf) (ne_bo_bf : bo ≠ bf) (ne_a_bl : a ≠ bl) (ne_st_bl : st ≠ bl) (ne_tb_bl : tb ≠ bl) (ne_ac_bl : ac ≠ bl) (ne_bo_bl : bo ≠ bl) (ne_bf_bl : bf ≠ bl) (ge_bf : n0 ≤ bf) (ge_bl : n0 ≤ bl) (sz_bf : hh.size ≤ bf) (sz_bl : hh.size ≤ bl) (hT : ∀ t ∈ T, t < 100) (hTl : T.length < 100) (hSL : SL.length < 100 ∧ SL.length ≠ 0) (r pre fi fr fr' : List Nat) (h : Heap) (eT : T = pre ++ r) (hm : Own.m98 SL.length r pre.length fi fr = some fr') (hfr : fr.length < 100) (hR : R98 l Z n0 D hh a st tb ac bo bf bl T A SL x1 O (Own.I pre.length) (fi.map Own.I) (fr.map Own.I) h) :
    ∃ (h' : Heap) (FI' : List Int32), R98 l Z n0 D hh a st tb ac bo bf bl T A SL x1 O (Own.I T.length) FI' (fr'.map Own.I) h' := by
  induction r generalizing pre fi fr h with
  | nil => cases hm; rw [List.append_nil] at eT; rw [eT] at hR ⊢; exact ⟨h, _, hR⟩
  | cons t r ih =>
    have hg : T[pre.length]? = some t := by rw [eT]; simp
    have hp : pre.length < T.length := Own.getlt hg
    have ht : t < 100 := hT t (by rw [eT]; simp)
    have hb : Own.I pre.length < Own.I T.length := (Own.I_lt (by omega) (by omega)).mpr hp
    cases t with
    | zero =>
      obtain ⟨h', hR'⟩ := l98n l Z a0 hw n0 D hh a st tb ac bo bf bl T A SL x1 O (Own.I pre.length) (fi.map Own.I) (fr.map Own.I) h ne_a_bf ne_st_bf ne_tb_bf ne_ac_bf ne_bo_bf ne_a_bl ne_st_bl ne_tb_bl ne_ac_bl ne_bo_bl ne_bf_bl ge_bf ge_bl sz_bf sz_bl hb pre.length (Own.J 0) (Own.Ix.i (by omega)) (Own.getM hg) ((Own.J_neg (by omega)).mpr rfl) hR
      rw [Own.I_add] at hR'
      exact ih (pre ++ [0]) fi fr h' (by rw [eT]; simp) (by rw [List.length_append]; exact hm) hfr (by rw [List.length_append]; exact hR')
    | succ t =>
      simp only [Own.m98] at hm
      cases ho : fi[t]? with
      | none => rw [ho] at hm; cases hm
      | some p =>
        rw [ho] at hm
        simp only at hm
        split at hm
        · rename_i hpl
          have hi : Own.Ix (Own.J (t + 1)) t := Own.Ix.j (by omega)
          have ip : Own.Ix (Own.I pre.length) pre.length := Own.Ix.i (by omega)
          obtain ⟨h', hR'⟩ := l98p l Z a0 hw n0 D hh a st tb ac bo bf bl T A SL x1 O (Own.I pre.length) (fi.map Own.I) (fr.map Own.I) h ne_a_bf ne_st_bf ne_tb_bf ne_ac_bf ne_bo_bf ne_a_bl ne_st_bl ne_tb_bl ne_ac_bl ne_bo_bl ne_bf_bl ge_bf ge_bl sz_bf sz_bl hb pre.length (Own.J (t + 1)) ip (Own.getM hg) (fun q => by have := (Own.J_neg (by omega)).mp q; omega) pre.length (Own.J (t + 1)) ip (Own.getM hg) t (Own.I p) hi (Own.getM ho) t hi (Own.ltM (Own.getlt ho)) (fun q => hSL.2 ((Own.I_eq0 (by omega)).mp q)) p (Own.Ix.i (by omega)) (Own.ltM hpl) hR
          rw [Own.I_add, Own.I_add, Own.I_div (by omega) (by omega), ← List.map_set, ← List.map_set] at hR'
          exact ih (pre ++ [t + 1]) _ _ h' (by rw [eT]; simp) (by rw [List.length_append]; exact hm) (by rw [List.length_set]; exact hfr) (by rw [List.length_append]; exact hR')
        · cases hm
theorem own_l171 (l : Launch) (Z : State) (a0 : Array Value) (hw : ∀ d ∈ tables_1, d.before a0 Z = true) (n0 : Nat) (D : Own.Dyn) (hh : Heap) (a : Addr) (ac : Addr) (bo : Addr) (bf : Addr) (bl : Addr) (bd : Addr) (bq : Addr) (A : List Nat) (x1 : Int32) (O : List Int32) (FR : List Int32) (ne_a_bd : a ≠ bd) (ne_ac_bd : ac ≠ bd) (ne_bo_bd : bo ≠ bd) (ne_bf_bd : bf ≠ bd) (ne_a_bq : a ≠ bq) (ne_ac_bq : ac ≠ bq) (ne_bo_bq : bo ≠ bq) (ne_bf_bq : bf ≠ bq) (ne_bd_bq : bd ≠ bq) (ge_bd : n0 ≤ bd) (ge_bq : n0 ≤ bq) (sz_bd : hh.size ≤ bd) (sz_bq : hh.size ≤ bq) (hA : ∀ t ∈ A, t < 100) (hAl : A.length < 100) (e1 : x1 = Own.I A.length) (r pre d q : List Nat) (t : Nat) (d' q' : List Nat) (t' : Nat) (h : Heap) (eT : A = pre ++ r) (hm : Own.m171 r pre.length d q t = some (d', q', t')) (hd : d.length < 100) (hq : q.length < 100) (hR : R171_ l Z n0 D hh a ac bo bf bl bd bq A x1 O FR (Own.I t) (Own.I pre.length) (d.map Own.J) (q.map Own.I) h) :
    ∃ h', R171_ l Z n0 D hh a ac bo bf bl bd bq A x1 O FR (Own.I t') (Own.I A.length) (d'.map Own.J) (q'.map Own.I) h' := by
  induction r generalizing pre d q t h with
  | nil => cases hm; rw [List.append_nil] at eT; rw [eT] at hR ⊢; exact ⟨h, hR⟩
  | cons v r ih =>
    have hg : A[pre.length]? = some v := by rw [eT]; simp
    have hp : pre.length < A.length := Own.getlt hg
    have ht : v < 100 := hA v (by rw [eT]; simp)
    have hb : Own.I pre.length < x1 := by rw [e1]; exact (Own.I_lt (by omega) (by omega)).mpr hp
    have ip : Own.Ix (Own.I pre.length) pre.length := Own.Ix.i (by omega)
    cases v with
    | zero =>
      obtain ⟨h', hR'⟩ := l171n l Z a0 hw n0 D hh a ac bo bf bl bd bq A x1 O FR (Own.I t) (Own.I pre.length) (d.map Own.J) (q.map Own.I) h ne_a_bd ne_ac_bd ne_bo_bd ne_bf_bd ne_a_bq ne_ac_bq ne_bo_bq ne_bf_bq ne_bd_bq ge_bd ge_bq sz_bd sz_bq hb pre.length (Own.I 0) ip (Own.getM hg) rfl hR
      rw [Own.I_add] at hR'
      exact ih (pre ++ [0]) d q t h' (by rw [eT]; simp) (by rw [List.length_append]; exact hm) hd hq (by rw [List.length_append]; exact hR')
    | succ v =>
      simp only [Own.m171] at hm
      split at hm
      · rename_i hc
        obtain ⟨h', hR'⟩ := l171p l Z a0 hw n0 D hh a ac bo bf bl bd bq A x1 O FR (Own.I t) (Own.I pre.length) (d.map Own.J) (q.map Own.I) h ne_a_bd ne_ac_bd ne_bo_bd ne_bf_bd ne_a_bq ne_ac_bq ne_bo_bq ne_bf_bq ne_bd_bq ge_bd ge_bq sz_bd sz_bq hb pre.length (Own.I (v + 1)) ip (Own.getM hg) (fun e => by have := (Own.I_eq0 (by omega)).mp e; omega) pre.length ip (Own.ltM hc.1) t (Own.Ix.i (by omega)) (Own.ltM hc.2) hR
        rw [Own.I_add, Own.I_add, show (0 : Int32) = Own.J 1 from rfl, ← List.map_set, ← List.map_set] at hR'
        exact ih (pre ++ [v + 1]) _ _ _ h' (by rw [eT]; simp) (by rw [List.length_append]; exact hm) (by rw [List.length_set]; exact hd) (by rw [List.length_set]; exact hq) (by rw [List.length_append]; exact hR')
      · cases hm
theorem own_l232 (l : Launch) (Z : State) (a0 : Array Value) (hw : ∀ d ∈ tables_1, d.before a0 Z = true) (n0 : Nat) (D : Own.Dyn) (hh : Heap) (a : Addr) (ac : Addr) (bo : Addr) (bf : Addr) (bl : Addr) (bd : Addr) (bq : Addr) (A : List Nat) (x1 : Int32) (O : List Int32) (FR : List Int32) (ne_a_bd : a ≠ bd) (ne_ac_bd : ac ≠ bd) (ne_bo_bd : bo ≠ bd) (ne_bf_bd : bf ≠ bd) (ne_a_bq : a ≠ bq) (ne_ac_bq : ac ≠ bq) (ne_bo_bq : bo ≠ bq) (ne_bf_bq : bf ≠ bq) (ne_bd_bq : bd ≠ bq) (ge_bd : n0 ≤ bd) (ge_bq : n0 ≤ bq) (sz_bd : hh.size ≤ bd) (sz_bq : hh.size ≤ bq) (off fr : List Nat) (eO : O = off.map Own.I) (eF : FR = fr.map Own.I) (s o2 ds : Nat) (hO : off[s + 1]? = some o2) (ho2 : o2 < 100) (hs : s < 100) (hds : ds < 100) (hds0 : ds ≠ 0) (hd : Nat) (f k : Nat) (d q : List Nat) (t : Nat) (d' q' : List Nat) (t' : Nat) (h : Heap) (hk : k + f = o2) (hm : Own.m232 fr ds f k d q t = some (d', q', t')) (hsd : d[s]? = some ds) (hdl : d.length < 100) (hql : q.length < 100) (htq : t ≤ q.length) (hR : R232_ l Z n0 D hh a ac bo bf bl bd bq A x1 O FR (Own.I t) (Own.I hd) (Own.I s) (Own.I k) (d.map Own.J) (q.map Own.I) h) :
    ∃ h', R232_ l Z n0 D hh a ac bo bf bl bd bq A x1 O FR (Own.I t') (Own.I hd) (Own.I s) (Own.I o2) (d'.map Own.J) (q'.map Own.I) h' ∧ d'.length < 100 ∧ q'.length < 100 ∧ t' ≤ q'.length := by
  induction f generalizing k d q t h with
  | zero => cases hm; rw [← hk]; exact ⟨h, hR, hdl, hql, htq⟩
  | succ f ih =>
    simp only [Own.m232] at hm
    have g239 : O[s + 1]? = some (Own.I o2) := by rw [eO]; exact Own.getM hO
    have hb : Own.I k < Own.I o2 := (Own.I_lt (by omega) (by omega)).mpr (by omega)
    cases hp : fr[k]? with
    | none => rw [hp] at hm; cases hm
    | some p =>
      rw [hp] at hm; simp only at hm
      have gF : FR[k]? = some (Own.I p) := by rw [eF]; exact Own.getM hp
      have ik : Own.Ix (Own.I k) k := Own.Ix.i (by omega)
      cases hv : d[p]? with
      | none => rw [hv] at hm; cases hm
      | some v =>
        have hpl : p < d.length := Own.getlt hv
        have ip : Own.Ix (Own.I p) p := Own.Ix.i (by omega)
        cases v with
        | zero =>
          rw [hv] at hm; simp only at hm
          split at hm
          · rename_i htl
            obtain ⟨h', hR'⟩ := l232p l Z a0 hw n0 D hh a ac bo bf bl bd bq A x1 O FR (Own.I t) (Own.I hd) (Own.I s) (Own.I k) (d.map Own.J) (q.map Own.I) h ne_a_bd ne_ac_bd ne_bo_bd ne_bf_bd ne_a_bq ne_ac_bq ne_bo_bq ne_bf_bq ne_bd_bq ge_bd ge_bq sz_bd sz_bq (s + 1) (Own.I o2) (Own.Ix.i1 (by omega)) g239 hb k (Own.I p) ik gF p (Own.J 0) ip (Own.getM hv) ((Own.J_neg (by omega)).mpr rfl) k (Own.I p) ik gF s (Own.J ds) (Own.Ix.i (by omega)) (Own.getM hsd) p ip (Own.ltM hpl) k (Own.I p) ik gF t (Own.Ix.i (by omega)) (Own.ltM htl) hR
            rw [Own.I_add, Own.I_add, Own.J_add, ← List.map_set, ← List.map_set] at hR'
            have hne : p ≠ s := fun e => by rw [e, hsd] at hv; exact hds0 (Option.some.inj hv)
            exact ih (k + 1) _ _ _ h' (by omega) hm (by rw [List.getElem?_set_ne hne]; exact hsd) (by rw [List.length_set]; exact hdl) (by rw [List.length_set]; exact hql) (by rw [List.length_set]; omega) hR'
          · cases hm
        | succ v =>
          rw [hv] at hm; simp only at hm
          split at hm
          · rename_i hv100
            obtain ⟨h', hR'⟩ := l232n l Z a0 hw n0 D hh a ac bo bf bl bd bq A x1 O FR (Own.I t) (Own.I hd) (Own.I s) (Own.I k) (d.map Own.J) (q.map Own.I) h ne_a_bd ne_ac_bd ne_bo_bd ne_bf_bd ne_a_bq ne_ac_bq ne_bo_bq ne_bf_bq ne_bd_bq ge_bd ge_bq sz_bd sz_bq (s + 1) (Own.I o2) (Own.Ix.i1 (by omega)) g239 hb k (Own.I p) ik gF p (Own.J (v + 1)) ip (Own.getM hv) (fun e => by have := (Own.J_neg (by omega)).mp e; omega) hR
            rw [Own.I_add] at hR'
            exact ih (k + 1) _ _ _ h' (by omega) hm hsd hdl hql htq hR'
          · cases hm
theorem own_l212 (l : Launch) (Z : State) (a0 : Array Value) (hw : ∀ d ∈ tables_1, d.before a0 Z = true) (n0 : Nat) (D : Own.Dyn) (hh : Heap) (a : Addr) (ac : Addr) (bo : Addr) (bf : Addr) (bl : Addr) (bd : Addr) (bq : Addr) (A : List Nat) (x1 : Int32) (O : List Int32) (FR : List Int32) (ne_a_bd : a ≠ bd) (ne_ac_bd : ac ≠ bd) (ne_bo_bd : bo ≠ bd) (ne_bf_bd : bf ≠ bd) (ne_a_bq : a ≠ bq) (ne_ac_bq : ac ≠ bq) (ne_bo_bq : bo ≠ bq) (ne_bf_bq : bf ≠ bq) (ne_bd_bq : bd ≠ bq) (ge_bd : n0 ≤ bd) (ge_bq : n0 ≤ bq) (sz_bd : hh.size ≤ bd) (sz_bq : hh.size ≤ bq) (off fr : List Nat) (eO : O = off.map Own.I) (eF : FR = fr.map Own.I) (f hd : Nat) (d q : List Nat) (t : Nat) (d' : List Nat) (h : Heap) (hm : Own.m212 off fr f hd d q t = some d') (hdl : d.length < 100) (hql : q.length < 100) (htq : t ≤ q.length) (hhd : hd + f < 900) (hR : R212_ l Z n0 D hh a ac bo bf bl bd bq A x1 O FR (Own.I t) (Own.I hd) (d.map Own.J) (q.map Own.I) h) :
    ∃ (h' : Heap) (t' hd' : Nat) (q' : List Nat), R212_ l Z n0 D hh a ac bo bf bl bd bq A x1 O FR (Own.I t') (Own.I hd') (d'.map Own.J) (q'.map Own.I) h' ∧ ¬ (Own.I hd' < Own.I t') := by
  induction f generalizing hd d q t h with
  | zero => cases hm
  | succ f ih =>
    simp only [Own.m212] at hm
    split at hm
    · rename_i hlt
      cases hs : q[hd]? with
      | none => rw [hs] at hm; cases hm
      | some s =>
        rw [hs] at hm; simp only at hm
        cases h1 : off[s]? with
        | none => rw [h1] at hm; cases hm
        | some o1 =>
          cases h2 : off[s + 1]? with
          | none => rw [h1, h2] at hm; cases hm
          | some o2 =>
            cases h3 : d[s]? with
            | none => rw [h1, h2, h3] at hm; cases hm
            | some ds =>
              rw [h1, h2, h3] at hm; simp only at hm
              split at hm
              · rename_i hc
                have hsl : s < d.length := Own.getlt h3
                cases hr : Own.m232 fr ds (o2 - o1) o1 d q t with
                | none => rw [hr] at hm; cases hm
                | some z =>
                  obtain ⟨d2, q2, t2⟩ := z
                  rw [hr] at hm; simp only at hm
                  obtain ⟨h', hR'⟩ := l212 l Z a0 hw n0 D hh a ac bo bf bl bd bq A x1 O FR (Own.I t) (Own.I hd) (d.map Own.J) (q.map Own.I) h ne_a_bd ne_ac_bd ne_bo_bd ne_bf_bd ne_a_bq ne_ac_bq ne_bo_bq ne_bf_bq ne_bd_bq ge_bd ge_bq sz_bd sz_bq ((Own.I_lt (by omega) (by omega)).mpr hlt) hd (Own.I s) (Own.Ix.i (by omega)) (Own.getM hs) s (Own.I o1) (Own.Ix.i (by omega)) (by rw [eO]; exact Own.getM h1) hR
                  obtain ⟨h'', hR'', l1, l2, l3⟩ := own_l232 l Z a0 hw n0 D hh a ac bo bf bl bd bq A x1 O FR ne_a_bd ne_ac_bd ne_bo_bd ne_bf_bd ne_a_bq ne_ac_bq ne_bo_bq ne_bf_bq ne_bd_bq ge_bd ge_bq sz_bd sz_bq off fr eO eF s o2 ds h2 hc.2.1 (by omega) hc.2.2.1 hc.2.2.2 hd (o2 - o1) o1 d q t d2 q2 t2 h' (by omega) hr h3 hdl hql htq hR'
                  obtain ⟨h3', hR3⟩ := l232x l Z a0 hw n0 D hh a ac bo bf bl bd bq A x1 O FR (Own.I t2) (Own.I hd) (Own.I s) (Own.I o2) (d2.map Own.J) (q2.map Own.I) h'' ne_a_bd ne_ac_bd ne_bo_bd ne_bf_bd ne_a_bq ne_ac_bq ne_bo_bq ne_bf_bq ne_bd_bq ge_bd ge_bq sz_bd sz_bq (s + 1) (Own.I o2) (Own.Ix.i1 (by omega)) (by rw [eO]; exact Own.getM h2) (fun q => Int32.lt_irrefl q) hR''
                  rw [Own.I_add] at hR3
                  exact ih (hd + 1) d2 q2 t2 h3' hm l1 l2 l3 (by omega) hR3
              · cases hm
    · rename_i hlt
      cases hm
      exact ⟨h, t, hd, q, hR, fun e => hlt ((Own.I_lt (by omega) (by omega)).mp e)⟩

set_option maxRecDepth 65536 in
set_option maxHeartbeats 40000000 in
theorem c4 (l : Launch) (Z : State) (a0 : Array Value) (hw : ∀ d ∈ tables_1, d.before a0 Z = true) (n0 : Nat) (h : Heap) (Zs : n0 ≤ h.size) (a : Addr) (st tb ac : Addr) (T A : List Nat) (SL : List Int32) (F_starts_a : Fld Z h a "com/example/ref_access_rules/refaccessrules/pattern/Dfa" "starts" "[I" (.ref st)) (V_st : Own.VA Z h st .int (SL.map Value.int)) (F_table_a : Fld Z h a "com/example/ref_access_rules/refaccessrules/pattern/Dfa" "table" "[I" (.ref tb)) (V_tb : Own.VA Z h tb .int ((T.map Own.J).map Value.int)) (F_accepting_a : Fld Z h a "com/example/ref_access_rules/refaccessrules/pattern/Dfa" "accepting" "[Z" (.ref ac)) (V_ac : Own.VA Z h ac .boolean ((A.map Own.I).map Value.int)) (hT : ∀ t ∈ T, t < 100) (hTl : T.length < 100) (hA : A.length < 6) (hAv : ∀ t ∈ A, t < 100) (hSL : SL.length < 100 ∧ SL.length ≠ 0) (d : List Nat) (hm : Own.mD SL.length T A = some d) :
    Own.Con l Z n0 (⟨"com/example/ref_access_rules/refaccessrules/pattern/Dfa", "distancesToAccepting", "()[I"⟩ : MethodName) prog_20_method_2_code 11 (some (.array .int)) R4 #[(.ref a)] h (fun v h' => ∃ b, v = some (.ref b) ∧ h.size ≤ b ∧ Keep h h' [] ∧ Own.VA Z h' b .int ((d.map Own.J).map Value.int)) := by
  refine Own.Con.enter pn_4 (ef_4 a) fun D r => ?_
  have K : Keep h h [] := Keep.refl _ _
  obtain ⟨o1, o2, tot, fr, d1, q1, t1, h24, h60, hol, htot, hlt, h98, h171, hdq, h212⟩ := Own.mD_some hm
  replace r : A4 l Z n0 D h 0 0 1 #[.val (.ref a), .unset, .unset, .unset, .unset, .unset, .unset, .unset, .unset, .unset, .unset] [(.ref a)] := Own.aloadN r d4_0 rfl rfl
  replace r : A4 l Z n0 D h 0 0 4 #[.val (.ref a), .unset, .unset, .unset, .unset, .unset, .unset, .unset, .unset, .unset, .unset] [(.ref ac)] := Own.getfield r d4_1 (host := "") (Or.inl (hw _ (List.mem_of_getElem? (i := 19) rfl))) Via.refl F_accepting_a
  replace r : A4 l Z n0 D h 0 0 5 #[.val (.ref a), .unset, .unset, .unset, .unset, .unset, .unset, .unset, .unset, .unset, .unset] [(.int (Own.I A.length))] := Own.arrlen r d4_4 V_ac Own.lenM
  replace r : A4 l Z n0 D h 0 0 6 #[.val (.ref a), .val (.int (Own.I A.length)), .unset, .unset, .unset, .unset, .unset, .unset, .unset, .unset, .unset] [] := Own.istoreN r d4_5 rfl
  replace r : A4 l Z n0 D h 0 0 7 #[.val (.ref a), .val (.int (Own.I A.length)), .unset, .unset, .unset, .unset, .unset, .unset, .unset, .unset, .unset] [(.int (Own.I A.length))] := Own.iloadN r d4_6 rfl
  replace r : A4 l Z n0 D h 0 0 8 #[.val (.ref a), .val (.int (Own.I A.length)), .unset, .unset, .unset, .unset, .unset, .unset, .unset, .unset, .unset] [(.int (1 : Int32)), (.int (Own.I A.length))] := Own.iconst r d4_7 rfl
  replace r : A4 l Z n0 D h 0 0 9 #[.val (.ref a), .val (.int (Own.I A.length)), .unset, .unset, .unset, .unset, .unset, .unset, .unset, .unset, .unset] [(.int ((Own.I A.length) + (1 : Int32)))] := Own.iadd r d4_8
  obtain ⟨h1, ⟨E1, V_bo⟩, r⟩ := Own.newArr r d4_9 (hw _ (List.mem_of_getElem? (i := 4) rfl)) (Own.Ix.i1 (n := A.length) (by omega)).1 (cap := 6) (by rw [(Own.Ix.i1 (n := A.length) (by omega)).2]; omega) (by decide) (by decide) (by decide)
  obtain ⟨bo, g1⟩ : ∃ z, z = h.size := ⟨_, rfl⟩
  rw [← g1] at V_bo r
  have ge_bo : n0 ≤ bo := Nat.le_trans Zs (Nat.le_of_eq g1.symm)
  have sz_bo : h.size ≤ bo := Nat.le_trans K.1 (Nat.le_of_eq g1.symm)
  have ne_a_bo : a ≠ bo := Own.ne_lt F_starts_a.lt g1
  have ne_ac_bo : ac ≠ bo := Own.ne_lt V_ac.lt g1
  have ne_st_bo : st ≠ bo := Own.ne_lt V_st.lt g1
  have ne_tb_bo : tb ≠ bo := Own.ne_lt V_tb.lt g1
  replace F_starts_a := F_starts_a.ext E1
  replace V_st := V_st.ext E1
  replace F_table_a := F_table_a.ext E1
  replace V_tb := V_tb.ext E1
  replace F_accepting_a := F_accepting_a.ext E1
  replace V_ac := V_ac.ext E1
  replace Zs := Nat.le_trans Zs E1.1
  replace K := K.ext E1
  replace r : A4 l Z n0 D h1 1 6 11 #[.val (.ref a), .val (.int (Own.I A.length)), .unset, .unset, .unset, .unset, .unset, .unset, .unset, .unset, .unset] [(.ref bo)] := r
  replace V_bo : Own.VA Z h1 bo .int (((List.replicate (A.length + 1) 0).map Own.I).map Value.int) := by have e := Own.repI (Own.Ix.i1 (n := A.length) (by omega)); rw [← e]; exact V_bo
  replace r : A4 l Z n0 D h1 1 6 12 #[.val (.ref a), .val (.int (Own.I A.length)), .val (.ref bo), .unset, .unset, .unset, .unset, .unset, .unset, .unset, .unset] [] := Own.astoreN r d4_11 rfl rfl
  replace r : A4 l Z n0 D h1 1 6 13 #[.val (.ref a), .val (.int (Own.I A.length)), .val (.ref bo), .unset, .unset, .unset, .unset, .unset, .unset, .unset, .unset] [(.ref a)] := Own.aloadN r d4_12 rfl rfl
  replace r : A4 l Z n0 D h1 1 6 16 #[.val (.ref a), .val (.int (Own.I A.length)), .val (.ref bo), .unset, .unset, .unset, .unset, .unset, .unset, .unset, .unset] [(.ref tb)] := Own.getfield r d4_13 (host := "") (Or.inl (hw _ (List.mem_of_getElem? (i := 17) rfl))) Via.refl F_table_a
  replace r : A4 l Z n0 D h1 1 6 17 #[.val (.ref a), .val (.int (Own.I A.length)), .val (.ref bo), .val (.ref tb), .unset, .unset, .unset, .unset, .unset, .unset, .unset] [] := Own.astoreN r d4_16 rfl rfl
  replace r : A4 l Z n0 D h1 1 6 18 #[.val (.ref a), .val (.int (Own.I A.length)), .val (.ref bo), .val (.ref tb), .unset, .unset, .unset, .unset, .unset, .unset, .unset] [(.ref tb)] := Own.aloadN r d4_17 rfl rfl
  replace r : A4 l Z n0 D h1 1 6 19 #[.val (.ref a), .val (.int (Own.I A.length)), .val (.ref bo), .val (.ref tb), .unset, .unset, .unset, .unset, .unset, .unset, .unset] [(.int (Own.I T.length))] := Own.arrlen r d4_18 V_tb Own.lenM
  replace r : A4 l Z n0 D h1 1 6 21 #[.val (.ref a), .val (.int (Own.I A.length)), .val (.ref bo), .val (.ref tb), .val (.int (Own.I T.length)), .unset, .unset, .unset, .unset, .unset, .unset] [] := Own.istore r d4_19 rfl
  replace r : A4 l Z n0 D h1 1 6 22 #[.val (.ref a), .val (.int (Own.I A.length)), .val (.ref bo), .val (.ref tb), .val (.int (Own.I T.length)), .unset, .unset, .unset, .unset, .unset, .unset] [(.int (0 : Int32))] := Own.iconst r d4_21 rfl
  replace r : A4 l Z n0 D h1 1 6 24 #[.val (.ref a), .val (.int (Own.I A.length)), .val (.ref bo), .val (.ref tb), .val (.int (Own.I T.length)), .val (.int (0 : Int32)), .unset, .unset, .unset, .unset, .unset] [] := Own.istore r d4_22 rfl
  obtain ⟨h2, hR⟩ := own_l24 l Z a0 hw n0 D h a st tb ac bo T A SL (Own.I A.length) (Own.I T.length) ne_a_bo ne_st_bo ne_tb_bo ne_ac_bo ge_bo sz_bo hT hTl rfl T [] _ _ _ rfl h24 ⟨Zs, K, F_starts_a, V_st, F_table_a, V_tb, F_accepting_a, V_ac, V_bo, (.unset), (Or.inl rfl), r⟩
  obtain ⟨Zs, K, F_starts_a, V_st, F_table_a, V_tb, F_accepting_a, V_ac, V_bo, sl6, o_sl6, r⟩ := hR
  replace r : A4 l Z n0 D h2 1 6 26 #[.val (.ref a), .val (.int (Own.I A.length)), .val (.ref bo), .val (.ref tb), .val (.int (Own.I T.length)), .val (.int (Own.I T.length)), sl6, .unset, .unset, .unset, .unset] [(.int (Own.I T.length))] := Own.iload r d4_24 rfl
  replace r : A4 l Z n0 D h2 1 6 28 #[.val (.ref a), .val (.int (Own.I A.length)), .val (.ref bo), .val (.ref tb), .val (.int (Own.I T.length)), .val (.int (Own.I T.length)), sl6, .unset, .unset, .unset, .unset] [(.int (Own.I T.length)), (.int (Own.I T.length))] := Own.iload r d4_26 rfl
  replace r : A4 l Z n0 D h2 1 6 58 #[.val (.ref a), .val (.int (Own.I A.length)), .val (.ref bo), .val (.ref tb), .val (.int (Own.I T.length)), .val (.int (Own.I T.length)), sl6, .unset, .unset, .unset, .unset] [] := Own.icmpYes r d4_28 (flt (fun q => Int32.lt_irrefl q)).2.1 (by decide) (by decide)
  replace r : A4 l Z n0 D h2 1 6 59 #[.val (.ref a), .val (.int (Own.I A.length)), .val (.ref bo), .val (.ref tb), .val (.int (Own.I T.length)), .val (.int (Own.I T.length)), sl6, .unset, .unset, .unset, .unset] [(.int (0 : Int32))] := Own.iconst r d4_58 rfl
  replace r : A4 l Z n0 D h2 1 6 60 #[.val (.ref a), .val (.int (Own.I A.length)), .val (.ref bo), .val (.int (0 : Int32)), .val (.int (Own.I T.length)), .val (.int (Own.I T.length)), sl6, .unset, .unset, .unset, .unset] [] := Own.istoreN r d4_59 rfl
  obtain ⟨h3, hR⟩ := own_l60 l Z a0 hw n0 D h a st tb ac bo T A SL (Own.I A.length) ne_a_bo ne_st_bo ne_tb_bo ne_ac_bo ge_bo sz_bo A.length (by omega) rfl A.length 0 _ _ _ (by omega) h60 ⟨Zs, K, F_starts_a, V_st, F_table_a, V_tb, F_accepting_a, V_ac, V_bo, (.val (.int (Own.I T.length))), (.val (.int (Own.I T.length))), (sl6), (Or.inr ⟨_, rfl, rfl⟩), (Or.inr ⟨_, rfl, rfl⟩), o_sl6, r⟩
  obtain ⟨Zs, K, F_starts_a, V_st, F_table_a, V_tb, F_accepting_a, V_ac, V_bo, sl4, sl5, sl6, o_sl4, o_sl5, o_sl6, r⟩ := hR
  replace r : A4 l Z n0 D h3 1 6 61 #[.val (.ref a), .val (.int (Own.I A.length)), .val (.ref bo), .val (.int (Own.I A.length)), sl4, sl5, sl6, .unset, .unset, .unset, .unset] [(.int (Own.I A.length))] := Own.iloadN r d4_60 rfl
  replace r : A4 l Z n0 D h3 1 6 62 #[.val (.ref a), .val (.int (Own.I A.length)), .val (.ref bo), .val (.int (Own.I A.length)), sl4, sl5, sl6, .unset, .unset, .unset, .unset] [(.int (Own.I A.length)), (.int (Own.I A.length))] := Own.iloadN r d4_61 rfl
  replace r : A4 l Z n0 D h3 1 6 82 #[.val (.ref a), .val (.int (Own.I A.length)), .val (.ref bo), .val (.int (Own.I A.length)), sl4, sl5, sl6, .unset, .unset, .unset, .unset] [] := Own.icmpYes r d4_62 (flt (fun q => Int32.lt_irrefl q)).2.1 (by decide) (by decide)
  replace r : A4 l Z n0 D h3 1 6 83 #[.val (.ref a), .val (.int (Own.I A.length)), .val (.ref bo), .val (.int (Own.I A.length)), sl4, sl5, sl6, .unset, .unset, .unset, .unset] [(.ref bo)] := Own.aloadN r d4_82 rfl rfl
  replace r : A4 l Z n0 D h3 1 6 84 #[.val (.ref a), .val (.int (Own.I A.length)), .val (.ref bo), .val (.int (Own.I A.length)), sl4, sl5, sl6, .unset, .unset, .unset, .unset] [(.int (Own.I A.length)), (.ref bo)] := Own.iloadN r d4_83 rfl
  replace r : A4 l Z n0 D h3 1 6 85 #[.val (.ref a), .val (.int (Own.I A.length)), .val (.ref bo), .val (.int (Own.I A.length)), sl4, sl5, sl6, .unset, .unset, .unset, .unset] [(.int (Own.I tot))] := Own.iaload r d4_84 V_bo (Own.Ix.i (n := A.length) (by omega)).1 (Own.Ix.get (Own.Ix.i (n := A.length) (by omega)) (Own.getM htot))
  obtain ⟨h4, ⟨E4, V_bf⟩, r⟩ := Own.newArr r d4_85 (hw _ (List.mem_of_getElem? (i := 4) rfl)) (Own.Ix.i (n := tot) (by omega)).1 (cap := 6) (by rw [(Own.Ix.i (n := tot) (by omega)).2]; omega) (by decide) (by decide) (by decide)
  obtain ⟨bf, g4⟩ : ∃ z, z = h3.size := ⟨_, rfl⟩
  rw [← g4] at V_bf r
  have ge_bf : n0 ≤ bf := Nat.le_trans Zs (Nat.le_of_eq g4.symm)
  have sz_bf : h.size ≤ bf := Nat.le_trans K.1 (Nat.le_of_eq g4.symm)
  have ne_a_bf : a ≠ bf := Own.ne_lt F_starts_a.lt g4
  have ne_ac_bf : ac ≠ bf := Own.ne_lt V_ac.lt g4
  have ne_bo_bf : bo ≠ bf := Own.ne_lt V_bo.lt g4
  have ne_st_bf : st ≠ bf := Own.ne_lt V_st.lt g4
  have ne_tb_bf : tb ≠ bf := Own.ne_lt V_tb.lt g4
  replace F_starts_a := F_starts_a.ext E4
  replace V_st := V_st.ext E4
  replace F_table_a := F_table_a.ext E4
  replace V_tb := V_tb.ext E4
  replace F_accepting_a := F_accepting_a.ext E4
  replace V_ac := V_ac.ext E4
  replace V_bo := V_bo.ext E4
  replace Zs := Nat.le_trans Zs E4.1
  replace K := K.ext E4
  replace r : A4 l Z n0 D h4 2 12 87 #[.val (.ref a), .val (.int (Own.I A.length)), .val (.ref bo), .val (.int (Own.I A.length)), sl4, sl5, sl6, .unset, .unset, .unset, .unset] [(.ref bf)] := r
  replace V_bf : Own.VA Z h4 bf .int (((List.replicate tot 0).map Own.I).map Value.int) := by have e := Own.repI (Own.Ix.i (n := tot) (by omega)); rw [← e]; exact V_bf
  replace r : A4 l Z n0 D h4 2 12 88 #[.val (.ref a), .val (.int (Own.I A.length)), .val (.ref bo), .val (.ref bf), sl4, sl5, sl6, .unset, .unset, .unset, .unset] [] := Own.astoreN r d4_87 rfl rfl
  replace r : A4 l Z n0 D h4 2 12 89 #[.val (.ref a), .val (.int (Own.I A.length)), .val (.ref bo), .val (.ref bf), sl4, sl5, sl6, .unset, .unset, .unset, .unset] [(.ref bo)] := Own.aloadN r d4_88 rfl rfl
  replace r : A4 l Z n0 D h4 2 12 90 #[.val (.ref a), .val (.int (Own.I A.length)), .val (.ref bo), .val (.ref bf), sl4, sl5, sl6, .unset, .unset, .unset, .unset] [(.int (Own.I A.length)), (.ref bo)] := Own.iloadN r d4_89 rfl
  obtain ⟨rv5, h6, hQ7, r⟩ := Own.callS [(.ref bo), (.int (Own.I A.length))] r d4_90 (c5 l Z a0 hw n0 h4 Zs bo (Own.I A.length) A.length (o2.map Own.I) V_bo rfl (by rw [List.length_map]; exact hol) hA) (hw _ (List.mem_of_getElem? (i := 25) rfl)) (hw _ (List.mem_of_getElem? (i := 26) rfl)) (hw _ (List.mem_of_getElem? (i := 27) rfl)) (hw _ (List.mem_of_getElem? (i := 28) rfl)) (lenOf pd_4_0 rfl) rfl rfl (W := 0) (Nat.le_of_eq rfl) rfl (by decide) (by decide) (by decide) (by decide) (by decide)
  obtain ⟨bl, rfl, sz1_bl, K8, V_bl⟩ := hQ7
  have ge_bl : n0 ≤ bl := Nat.le_trans Zs sz1_bl
  have sz_bl : h.size ≤ bl := Nat.le_trans K.1 sz1_bl
  have ne_a_bl : a ≠ bl := Nat.ne_of_lt (Nat.lt_of_lt_of_le F_starts_a.lt sz1_bl)
  have ne_ac_bl : ac ≠ bl := Nat.ne_of_lt (Nat.lt_of_lt_of_le V_ac.lt sz1_bl)
  have ne_bf_bl : bf ≠ bl := Nat.ne_of_lt (Nat.lt_of_lt_of_le V_bf.lt sz1_bl)
  have ne_bo_bl : bo ≠ bl := Nat.ne_of_lt (Nat.lt_of_lt_of_le V_bo.lt sz1_bl)
  have ne_st_bl : st ≠ bl := Nat.ne_of_lt (Nat.lt_of_lt_of_le V_st.lt sz1_bl)
  have ne_tb_bl : tb ≠ bl := Nat.ne_of_lt (Nat.lt_of_lt_of_le V_tb.lt sz1_bl)
  replace F_starts_a := F_starts_a.keep K8 (by simp)
  replace V_st := V_st.keep K8 (by simp)
  replace F_table_a := F_table_a.keep K8 (by simp)
  replace V_tb := V_tb.keep K8 (by simp)
  replace F_accepting_a := F_accepting_a.keep K8 (by simp)
  replace V_ac := V_ac.keep K8 (by simp)
  replace V_bo := V_bo.keep K8 (by simp)
  replace V_bf := V_bf.keep K8 (by simp)
  replace Zs := Nat.le_trans Zs K8.1
  replace K := K.trans K8 (by simp)
  replace V_bl : Own.VA Z h6 bl .int (((o2.take A.length).map Own.I).map Value.int) := by have e := Own.takeM (L := o2) (S := A.length); rw [← e]; exact V_bl
  replace r : A4 l Z n0 D h6 3 18 93 #[.val (.ref a), .val (.int (Own.I A.length)), .val (.ref bo), .val (.ref bf), sl4, sl5, sl6, .unset, .unset, .unset, .unset] [(.ref bl)] := r
  replace r : A4 l Z n0 D h6 3 18 95 #[.val (.ref a), .val (.int (Own.I A.length)), .val (.ref bo), .val (.ref bf), .val (.ref bl), sl5, sl6, .unset, .unset, .unset, .unset] [] := Own.astoreS r d4_93 rfl rfl o_sl4
  replace r : A4 l Z n0 D h6 3 18 96 #[.val (.ref a), .val (.int (Own.I A.length)), .val (.ref bo), .val (.ref bf), .val (.ref bl), sl5, sl6, .unset, .unset, .unset, .unset] [(.int (0 : Int32))] := Own.iconst r d4_95 rfl
  replace r : A4 l Z n0 D h6 3 18 98 #[.val (.ref a), .val (.int (Own.I A.length)), .val (.ref bo), .val (.ref bf), .val (.ref bl), .val (.int (0 : Int32)), sl6, .unset, .unset, .unset, .unset] [] := Own.istoreS r d4_96 rfl o_sl5
  obtain ⟨h9, FI', hR⟩ := own_l98 l Z a0 hw n0 D h a st tb ac bo bf bl T A SL (Own.I A.length) (o2.map Own.I) ne_a_bf ne_st_bf ne_tb_bf ne_ac_bf ne_bo_bf ne_a_bl ne_st_bl ne_tb_bl ne_ac_bl ne_bo_bl ne_bf_bl ge_bf ge_bl sz_bf sz_bl hT hTl hSL T [] _ _ _ _ rfl h98 (by rw [List.length_replicate]; omega) ⟨Zs, K, F_starts_a, V_st, F_table_a, V_tb, F_accepting_a, V_ac, V_bo, V_bf, V_bl, (sl6), o_sl6, r⟩
  obtain ⟨Zs, K, F_starts_a, V_st, F_table_a, V_tb, F_accepting_a, V_ac, V_bo, V_bf, V_bl, sl6, o_sl6, r⟩ := hR
  replace r : A4 l Z n0 D h9 3 18 100 #[.val (.ref a), .val (.int (Own.I A.length)), .val (.ref bo), .val (.ref bf), .val (.ref bl), .val (.int (Own.I T.length)), sl6, .unset, .unset, .unset, .unset] [(.int (Own.I T.length))] := Own.iload r d4_98 rfl
  replace r : A4 l Z n0 D h9 3 18 101 #[.val (.ref a), .val (.int (Own.I A.length)), .val (.ref bo), .val (.ref bf), .val (.ref bl), .val (.int (Own.I T.length)), sl6, .unset, .unset, .unset, .unset] [(.ref a), (.int (Own.I T.length))] := Own.aloadN r d4_100 rfl rfl
  replace r : A4 l Z n0 D h9 3 18 104 #[.val (.ref a), .val (.int (Own.I A.length)), .val (.ref bo), .val (.ref bf), .val (.ref bl), .val (.int (Own.I T.length)), sl6, .unset, .unset, .unset, .unset] [(.ref tb), (.int (Own.I T.length))] := Own.getfield r d4_101 (host := "") (Or.inl (hw _ (List.mem_of_getElem? (i := 17) rfl))) Via.refl F_table_a
  replace r : A4 l Z n0 D h9 3 18 105 #[.val (.ref a), .val (.int (Own.I A.length)), .val (.ref bo), .val (.ref bf), .val (.ref bl), .val (.int (Own.I T.length)), sl6, .unset, .unset, .unset, .unset] [(.int (Own.I T.length)), (.int (Own.I T.length))] := Own.arrlen r d4_104 V_tb Own.lenM
  replace r : A4 l Z n0 D h9 3 18 149 #[.val (.ref a), .val (.int (Own.I A.length)), .val (.ref bo), .val (.ref bf), .val (.ref bl), .val (.int (Own.I T.length)), sl6, .unset, .unset, .unset, .unset] [] := Own.icmpYes r d4_105 (flt (fun q => Int32.lt_irrefl q)).2.1 (by decide) (by decide)
  replace r : A4 l Z n0 D h9 3 18 150 #[.val (.ref a), .val (.int (Own.I A.length)), .val (.ref bo), .val (.ref bf), .val (.ref bl), .val (.int (Own.I T.length)), sl6, .unset, .unset, .unset, .unset] [(.int (Own.I A.length))] := Own.iloadN r d4_149 rfl
  obtain ⟨h10, ⟨E10, V_bd⟩, r⟩ := Own.newArr r d4_150 (hw _ (List.mem_of_getElem? (i := 4) rfl)) (Own.Ix.i (n := A.length) (by omega)).1 (cap := 6) (by rw [(Own.Ix.i (n := A.length) (by omega)).2]; omega) (by decide) (by decide) (by decide)
  obtain ⟨bd, g10⟩ : ∃ z, z = h9.size := ⟨_, rfl⟩
  rw [← g10] at V_bd r
  have ge_bd : n0 ≤ bd := Nat.le_trans Zs (Nat.le_of_eq g10.symm)
  have sz_bd : h.size ≤ bd := Nat.le_trans K.1 (Nat.le_of_eq g10.symm)
  have ne_a_bd : a ≠ bd := Own.ne_lt F_starts_a.lt g10
  have ne_ac_bd : ac ≠ bd := Own.ne_lt V_ac.lt g10
  have ne_bf_bd : bf ≠ bd := Own.ne_lt V_bf.lt g10
  have ne_bl_bd : bl ≠ bd := Own.ne_lt V_bl.lt g10
  have ne_bo_bd : bo ≠ bd := Own.ne_lt V_bo.lt g10
  have ne_st_bd : st ≠ bd := Own.ne_lt V_st.lt g10
  have ne_tb_bd : tb ≠ bd := Own.ne_lt V_tb.lt g10
  replace F_starts_a := F_starts_a.ext E10
  replace V_st := V_st.ext E10
  replace F_table_a := F_table_a.ext E10
  replace V_tb := V_tb.ext E10
  replace F_accepting_a := F_accepting_a.ext E10
  replace V_ac := V_ac.ext E10
  replace V_bo := V_bo.ext E10
  replace V_bf := V_bf.ext E10
  replace V_bl := V_bl.ext E10
  replace Zs := Nat.le_trans Zs E10.1
  replace K := K.ext E10
  replace r : A4 l Z n0 D h10 4 24 152 #[.val (.ref a), .val (.int (Own.I A.length)), .val (.ref bo), .val (.ref bf), .val (.ref bl), .val (.int (Own.I T.length)), sl6, .unset, .unset, .unset, .unset] [(.ref bd)] := r
  replace V_bd : Own.VA Z h10 bd .int (((List.replicate A.length 0).map Own.I).map Value.int) := by have e := Own.repI (Own.Ix.i (n := A.length) (by omega)); rw [← e]; exact V_bd
  replace r : A4 l Z n0 D h10 4 24 154 #[.val (.ref a), .val (.int (Own.I A.length)), .val (.ref bo), .val (.ref bf), .val (.ref bl), .val (.ref bd), sl6, .unset, .unset, .unset, .unset] [] := Own.astore r d4_152 rfl rfl
  replace r : A4 l Z n0 D h10 4 24 156 #[.val (.ref a), .val (.int (Own.I A.length)), .val (.ref bo), .val (.ref bf), .val (.ref bl), .val (.ref bd), sl6, .unset, .unset, .unset, .unset] [(.ref bd)] := Own.aload r d4_154 rfl rfl
  replace r : A4 l Z n0 D h10 4 24 157 #[.val (.ref a), .val (.int (Own.I A.length)), .val (.ref bo), .val (.ref bf), .val (.ref bl), .val (.ref bd), sl6, .unset, .unset, .unset, .unset] [(.int (-1 : Int32)), (.ref bd)] := Own.iconst r d4_156 rfl
  obtain ⟨rv11, h12, hQ13, r⟩ := Own.callS [(.ref bd), (.int (-1 : Int32))] r d4_157 (c7 l Z a0 hw n0 h10 Zs bd (-1 : Int32) ((List.replicate A.length 0).map Own.I) V_bd ge_bd (by rw [List.length_map, List.length_replicate]; omega)) (hw _ (List.mem_of_getElem? (i := 37) rfl)) (hw _ (List.mem_of_getElem? (i := 38) rfl)) (hw _ (List.mem_of_getElem? (i := 27) rfl)) (hw _ (List.mem_of_getElem? (i := 39) rfl)) (lenOf pd_4_1 rfl) rfl rfl (W := 0) (Nat.le_of_eq rfl) rfl (by decide) (by decide) (by decide) (by decide) (by decide)
  obtain ⟨rfl, K14, V_bd⟩ := hQ13
  replace F_starts_a := F_starts_a.keep K14 (by simp [ne_a_bd])
  replace V_st := V_st.keep K14 (by simp [ne_st_bd])
  replace F_table_a := F_table_a.keep K14 (by simp [ne_a_bd])
  replace V_tb := V_tb.keep K14 (by simp [ne_tb_bd])
  replace F_accepting_a := F_accepting_a.keep K14 (by simp [ne_a_bd])
  replace V_ac := V_ac.keep K14 (by simp [ne_ac_bd])
  replace V_bo := V_bo.keep K14 (by simp [ne_bo_bd])
  replace V_bf := V_bf.keep K14 (by simp [ne_bf_bd])
  replace V_bl := V_bl.keep K14 (by simp [ne_bl_bd])
  replace Zs := Nat.le_trans Zs K14.1
  replace K := K.trans K14 (by simp [sz_bd])
  replace V_bd : Own.VA Z h12 bd .int (((List.replicate A.length 0).map Own.J).map Value.int) := by have e := Own.fillM (n := A.length); rw [← e]; exact V_bd
  replace r : A4 l Z n0 D h12 4 24 160 #[.val (.ref a), .val (.int (Own.I A.length)), .val (.ref bo), .val (.ref bf), .val (.ref bl), .val (.ref bd), sl6, .unset, .unset, .unset, .unset] [] := r
  replace r : A4 l Z n0 D h12 4 24 161 #[.val (.ref a), .val (.int (Own.I A.length)), .val (.ref bo), .val (.ref bf), .val (.ref bl), .val (.ref bd), sl6, .unset, .unset, .unset, .unset] [(.int (Own.I A.length))] := Own.iloadN r d4_160 rfl
  obtain ⟨h15, ⟨E15, V_bq⟩, r⟩ := Own.newArr r d4_161 (hw _ (List.mem_of_getElem? (i := 4) rfl)) (Own.Ix.i (n := A.length) (by omega)).1 (cap := 6) (by rw [(Own.Ix.i (n := A.length) (by omega)).2]; omega) (by decide) (by decide) (by decide)
  obtain ⟨bq, g15⟩ : ∃ z, z = h12.size := ⟨_, rfl⟩
  rw [← g15] at V_bq r
  have ge_bq : n0 ≤ bq := Nat.le_trans Zs (Nat.le_of_eq g15.symm)
  have sz_bq : h.size ≤ bq := Nat.le_trans K.1 (Nat.le_of_eq g15.symm)
  have ne_a_bq : a ≠ bq := Own.ne_lt F_starts_a.lt g15
  have ne_ac_bq : ac ≠ bq := Own.ne_lt V_ac.lt g15
  have ne_bd_bq : bd ≠ bq := Own.ne_lt V_bd.lt g15
  have ne_bf_bq : bf ≠ bq := Own.ne_lt V_bf.lt g15
  have ne_bl_bq : bl ≠ bq := Own.ne_lt V_bl.lt g15
  have ne_bo_bq : bo ≠ bq := Own.ne_lt V_bo.lt g15
  have ne_st_bq : st ≠ bq := Own.ne_lt V_st.lt g15
  have ne_tb_bq : tb ≠ bq := Own.ne_lt V_tb.lt g15
  replace F_starts_a := F_starts_a.ext E15
  replace V_st := V_st.ext E15
  replace F_table_a := F_table_a.ext E15
  replace V_tb := V_tb.ext E15
  replace F_accepting_a := F_accepting_a.ext E15
  replace V_ac := V_ac.ext E15
  replace V_bo := V_bo.ext E15
  replace V_bf := V_bf.ext E15
  replace V_bl := V_bl.ext E15
  replace V_bd := V_bd.ext E15
  replace Zs := Nat.le_trans Zs E15.1
  replace K := K.ext E15
  replace r : A4 l Z n0 D h15 5 30 163 #[.val (.ref a), .val (.int (Own.I A.length)), .val (.ref bo), .val (.ref bf), .val (.ref bl), .val (.ref bd), sl6, .unset, .unset, .unset, .unset] [(.ref bq)] := r
  replace V_bq : Own.VA Z h15 bq .int (((List.replicate A.length 0).map Own.I).map Value.int) := by have e := Own.repI (Own.Ix.i (n := A.length) (by omega)); rw [← e]; exact V_bq
  replace r : A4 l Z n0 D h15 5 30 165 #[.val (.ref a), .val (.int (Own.I A.length)), .val (.ref bo), .val (.ref bf), .val (.ref bl), .val (.ref bd), .val (.ref bq), .unset, .unset, .unset, .unset] [] := Own.astoreS r d4_163 rfl rfl o_sl6
  replace r : A4 l Z n0 D h15 5 30 166 #[.val (.ref a), .val (.int (Own.I A.length)), .val (.ref bo), .val (.ref bf), .val (.ref bl), .val (.ref bd), .val (.ref bq), .unset, .unset, .unset, .unset] [(.int (0 : Int32))] := Own.iconst r d4_165 rfl
  replace r : A4 l Z n0 D h15 5 30 168 #[.val (.ref a), .val (.int (Own.I A.length)), .val (.ref bo), .val (.ref bf), .val (.ref bl), .val (.ref bd), .val (.ref bq), .val (.int (0 : Int32)), .unset, .unset, .unset] [] := Own.istore r d4_166 rfl
  replace r : A4 l Z n0 D h15 5 30 169 #[.val (.ref a), .val (.int (Own.I A.length)), .val (.ref bo), .val (.ref bf), .val (.ref bl), .val (.ref bd), .val (.ref bq), .val (.int (0 : Int32)), .unset, .unset, .unset] [(.int (0 : Int32))] := Own.iconst r d4_168 rfl
  replace r : A4 l Z n0 D h15 5 30 171 #[.val (.ref a), .val (.int (Own.I A.length)), .val (.ref bo), .val (.ref bf), .val (.ref bl), .val (.ref bd), .val (.ref bq), .val (.int (0 : Int32)), .val (.int (0 : Int32)), .unset, .unset] [] := Own.istore r d4_169 rfl
  obtain ⟨h16, hR⟩ := own_l171 l Z a0 hw n0 D h a ac bo bf bl bd bq A (Own.I A.length) (o2.map Own.I) (fr.map Own.I) ne_a_bd ne_ac_bd ne_bo_bd ne_bf_bd ne_a_bq ne_ac_bq ne_bo_bq ne_bf_bq ne_bd_bq ge_bd ge_bq sz_bd sz_bq hAv (by omega) rfl A [] _ _ _ _ _ _ _ rfl h171 (by rw [List.length_replicate]; omega) (by rw [List.length_replicate]; omega) ⟨Zs, K, F_accepting_a, V_ac, V_bo, V_bf, V_bd, V_bq, r⟩
  obtain ⟨Zs, K, F_accepting_a, V_ac, V_bo, V_bf, V_bd, V_bq, r⟩ := hR
  replace r : A4 l Z n0 D h16 5 30 173 #[.val (.ref a), .val (.int (Own.I A.length)), .val (.ref bo), .val (.ref bf), .val (.ref bl), .val (.ref bd), .val (.ref bq), .val (.int (Own.I t1)), .val (.int (Own.I A.length)), .unset, .unset] [(.int (Own.I A.length))] := Own.iload r d4_171 rfl
  replace r : A4 l Z n0 D h16 5 30 174 #[.val (.ref a), .val (.int (Own.I A.length)), .val (.ref bo), .val (.ref bf), .val (.ref bl), .val (.ref bd), .val (.ref bq), .val (.int (Own.I t1)), .val (.int (Own.I A.length)), .unset, .unset] [(.int (Own.I A.length)), (.int (Own.I A.length))] := Own.iloadN r d4_173 rfl
  replace r : A4 l Z n0 D h16 5 30 209 #[.val (.ref a), .val (.int (Own.I A.length)), .val (.ref bo), .val (.ref bf), .val (.ref bl), .val (.ref bd), .val (.ref bq), .val (.int (Own.I t1)), .val (.int (Own.I A.length)), .unset, .unset] [] := Own.icmpYes r d4_174 (flt (fun q => Int32.lt_irrefl q)).2.1 (by decide) (by decide)
  replace r : A4 l Z n0 D h16 5 30 210 #[.val (.ref a), .val (.int (Own.I A.length)), .val (.ref bo), .val (.ref bf), .val (.ref bl), .val (.ref bd), .val (.ref bq), .val (.int (Own.I t1)), .val (.int (Own.I A.length)), .unset, .unset] [(.int (0 : Int32))] := Own.iconst r d4_209 rfl
  replace r : A4 l Z n0 D h16 5 30 212 #[.val (.ref a), .val (.int (Own.I A.length)), .val (.ref bo), .val (.ref bf), .val (.ref bl), .val (.ref bd), .val (.ref bq), .val (.int (Own.I t1)), .val (.int (0 : Int32)), .unset, .unset] [] := Own.istore r d4_210 rfl
  obtain ⟨h17, t', hd', q', hR, hbr⟩ := own_l212 l Z a0 hw n0 D h a ac bo bf bl bd bq A (Own.I A.length) (o2.map Own.I) (fr.map Own.I) ne_a_bd ne_ac_bd ne_bo_bd ne_bf_bd ne_a_bq ne_ac_bq ne_bo_bq ne_bf_bq ne_bd_bq ge_bd ge_bq sz_bd sz_bq o2 fr rfl rfl 8 0 _ _ _ _ _ h212 hdq.1 hdq.2.1 hdq.2.2 (by omega) ⟨Zs, K, V_bo, V_bf, V_bd, V_bq, (.unset), (.unset), (Or.inl rfl), (Or.inl rfl), r⟩
  obtain ⟨Zs, K, V_bo, V_bf, V_bd, V_bq, sl9, sl10, o_sl9, o_sl10, r⟩ := hR
  replace r : A4 l Z n0 D h17 5 30 214 #[.val (.ref a), .val (.int (Own.I A.length)), .val (.ref bo), .val (.ref bf), .val (.ref bl), .val (.ref bd), .val (.ref bq), .val (.int (Own.I t')), .val (.int (Own.I hd')), sl9, sl10] [(.int (Own.I hd'))] := Own.iload r d4_212 rfl
  replace r : A4 l Z n0 D h17 5 30 216 #[.val (.ref a), .val (.int (Own.I A.length)), .val (.ref bo), .val (.ref bf), .val (.ref bl), .val (.ref bd), .val (.ref bq), .val (.int (Own.I t')), .val (.int (Own.I hd')), sl9, sl10] [(.int (Own.I t')), (.int (Own.I hd'))] := Own.iload r d4_214 rfl
  replace r : A4 l Z n0 D h17 5 30 291 #[.val (.ref a), .val (.int (Own.I A.length)), .val (.ref bo), .val (.ref bf), .val (.ref bl), .val (.ref bd), .val (.ref bq), .val (.int (Own.I t')), .val (.int (Own.I hd')), sl9, sl10] [] := Own.icmpYes r d4_216 (flt hbr).2.1 (by decide) (by decide)
  replace r : A4 l Z n0 D h17 5 30 293 #[.val (.ref a), .val (.int (Own.I A.length)), .val (.ref bo), .val (.ref bf), .val (.ref bl), .val (.ref bd), .val (.ref bq), .val (.int (Own.I t')), .val (.int (Own.I hd')), sl9, sl10] [(.ref bd)] := Own.aload r d4_291 rfl rfl
  exact ⟨_, _, (Own.Rch.retA r d4_293 rfl rfl).more (by decide) (by decide), bd, rfl, sz_bd, K, V_bd⟩
theorem d2_0 : decode prog_20_method_1_code 0 = .ok (.aload_n 0, 1) := by decide +kernel
theorem d2_1 : decode prog_20_method_1_code 1 = .ok (.invokespecial 1, 3) := by decide +kernel
theorem d2_4 : decode prog_20_method_1_code 4 = .ok (.aload_n 0, 1) := by decide +kernel
theorem d2_5 : decode prog_20_method_1_code 5 = .ok (.aload_n 1, 1) := by decide +kernel
theorem d2_6 : decode prog_20_method_1_code 6 = .ok (.putfield 7, 3) := by decide +kernel
theorem d2_9 : decode prog_20_method_1_code 9 = .ok (.aload_n 0, 1) := by decide +kernel
theorem d2_10 : decode prog_20_method_1_code 10 = .ok (.aload_n 2, 1) := by decide +kernel
theorem d2_11 : decode prog_20_method_1_code 11 = .ok (.putfield 13, 3) := by decide +kernel
theorem d2_14 : decode prog_20_method_1_code 14 = .ok (.aload_n 0, 1) := by decide +kernel
theorem d2_15 : decode prog_20_method_1_code 15 = .ok (.aload_n 3, 1) := by decide +kernel
theorem d2_16 : decode prog_20_method_1_code 16 = .ok (.putfield 16, 3) := by decide +kernel
theorem d2_19 : decode prog_20_method_1_code 19 = .ok (.aload_n 0, 1) := by decide +kernel
theorem d2_20 : decode prog_20_method_1_code 20 = .ok (.aload_n 0, 1) := by decide +kernel
theorem d2_21 : decode prog_20_method_1_code 21 = .ok (.invokevirtual 20, 3) := by decide +kernel
theorem d2_24 : decode prog_20_method_1_code 24 = .ok (.putfield 24, 3) := by decide +kernel
theorem d2_27 : decode prog_20_method_1_code 27 = .ok (.return_, 1) := by decide +kernel
theorem pd_2_0 : parseMethodDescriptor "()[I" = some ⟨[], some (.array .int)⟩ := by decide +kernel
theorem pn_2 : plainFor (⟨"com/example/ref_access_rules/refaccessrules/pattern/Dfa", "<init>", "([I[I[Z)V"⟩ : MethodName) = true := plainFor_of_name (by first | (simp [plainName, overriddenIn, x]; done) | decide +kernel)
theorem ef_2 (a : Addr) (st : Addr) (tb : Addr) (ac : Addr) (m : MethodId) : entryFrame m #[(.ref a), (.ref st), (.ref tb), (.ref ac)] 4 = mkF m 0 #[.val (.ref a), .val (.ref st), .val (.ref tb), .val (.ref ac)] [] := by first | (simp [entryFrame, mkF, argsToLocals, Value.category, maxLocals]; done) | rfl
abbrev R2 : Room := ({ frames := 3, cells := 5, slots := 30, locals := 55 } : Room)
abbrev A2 (l : Launch) (Z : State) (n0 : Nat) (D : Own.Dyn) := Own.Rch l Z n0 R2 (⟨"com/example/ref_access_rules/refaccessrules/pattern/Dfa", "<init>", "([I[I[Z)V"⟩ : MethodName) prog_20_method_1_code 4 none D
set_option maxRecDepth 65536 in
set_option maxHeartbeats 40000000 in
theorem c2 (l : Launch) (Z : State) (a0 : Array Value) (hw : ∀ d ∈ tables_1, d.before a0 Z = true) (n0 : Nat) (h : Heap) (Zs : n0 ≤ h.size) (a : Addr) (st : Addr) (tb : Addr) (ac : Addr) (u_starts : Value) (u_table : Value) (u_accepting : Value) (u_distances : Value) (T A : List Nat) (SL : List Int32) (F_starts_a : Fld Z h a "com/example/ref_access_rules/refaccessrules/pattern/Dfa" "starts" "[I" u_starts) (F_table_a : Fld Z h a "com/example/ref_access_rules/refaccessrules/pattern/Dfa" "table" "[I" u_table) (F_accepting_a : Fld Z h a "com/example/ref_access_rules/refaccessrules/pattern/Dfa" "accepting" "[Z" u_accepting) (F_distances_a : Fld Z h a "com/example/ref_access_rules/refaccessrules/pattern/Dfa" "distances" "[I" u_distances) (X_a : Exa Z h a "com/example/ref_access_rules/refaccessrules/pattern/Dfa") (ge_a : n0 ≤ a) (V_st : Own.VA Z h st .int (SL.map Value.int)) (ne_st_a : st ≠ a) (V_tb : Own.VA Z h tb .int ((T.map Own.J).map Value.int)) (ne_tb_a : tb ≠ a) (V_ac : Own.VA Z h ac .boolean ((A.map Own.I).map Value.int)) (ne_ac_a : ac ≠ a) (hT : ∀ t ∈ T, t < 100) (hTl : T.length < 100) (hA : A.length < 6) (hAv : ∀ t ∈ A, t < 100) (hSL : SL.length < 100 ∧ SL.length ≠ 0) (d : List Nat) (hm : Own.mD SL.length T A = some d) :
    Own.Con l Z n0 (⟨"com/example/ref_access_rules/refaccessrules/pattern/Dfa", "<init>", "([I[I[Z)V"⟩ : MethodName) prog_20_method_1_code 4 none R2 #[(.ref a), (.ref st), (.ref tb), (.ref ac)] h (fun v h' => v = none ∧ Keep h h' [a] ∧ Exa Z h' a "com/example/ref_access_rules/refaccessrules/pattern/Dfa" ∧ Fld Z h' a "com/example/ref_access_rules/refaccessrules/pattern/Dfa" "starts" "[I" (.ref st) ∧ Fld Z h' a "com/example/ref_access_rules/refaccessrules/pattern/Dfa" "table" "[I" (.ref tb) ∧ Fld Z h' a "com/example/ref_access_rules/refaccessrules/pattern/Dfa" "accepting" "[Z" (.ref ac) ∧ ∃ b, h.size ≤ b ∧ Fld Z h' a "com/example/ref_access_rules/refaccessrules/pattern/Dfa" "distances" "[I" (.ref b) ∧ Own.VA Z h' b .int ((d.map Own.J).map Value.int)) := by
  refine Own.Con.enter pn_2 (ef_2 a st tb ac) fun D r => ?_
  have K : Keep h h [a] := Keep.refl _ _
  replace r : A2 l Z n0 D h 0 0 1 #[.val (.ref a), .val (.ref st), .val (.ref tb), .val (.ref ac)] [(.ref a)] := Own.aloadN r d2_0 rfl rfl
  replace r : A2 l Z n0 D h 0 0 4 #[.val (.ref a), .val (.ref st), .val (.ref tb), .val (.ref ac)] [] := Own.initObj r d2_1 (hw _ (List.mem_of_getElem? (i := 12) rfl)) (hw _ (List.mem_of_getElem? (i := 13) rfl)) (hw _ (List.mem_of_getElem? (i := 14) rfl)) rfl (by decide) (W := 0) (Nat.le_of_eq rfl) (by decide)
  replace r : A2 l Z n0 D h 0 0 5 #[.val (.ref a), .val (.ref st), .val (.ref tb), .val (.ref ac)] [(.ref a)] := Own.aloadN r d2_4 rfl rfl
  replace r : A2 l Z n0 D h 0 0 6 #[.val (.ref a), .val (.ref st), .val (.ref tb), .val (.ref ac)] [(.ref st), (.ref a)] := Own.aloadN r d2_5 rfl rfl
  obtain ⟨h2, W1, r⟩ := Own.putfield r d2_6 (host := "") (Or.inl (hw _ (List.mem_of_getElem? (i := 15) rfl))) Via.refl F_starts_a X_a (Or.inr ⟨(hw _ (List.mem_of_getElem? (i := 16) rfl)), rfl, rfl⟩) (hw _ (List.mem_of_getElem? (i := 7) rfl)) (ty := (.array .int)) (by decide) rfl rfl ge_a
  replace r : A2 l Z n0 D h2 0 0 9 #[.val (.ref a), .val (.ref st), .val (.ref tb), .val (.ref ac)] [] := r
  replace F_starts_a := F_starts_a.same W1
  replace F_table_a := F_table_a.other W1 (Or.inr (slot_ne (Or.inr (hw _ (List.mem_of_getElem? (i := 18) rfl))) (Or.inr (hw _ (List.mem_of_getElem? (i := 16) rfl))) (by decide) (t := (.array .int)) (t' := (.array .int)) (by decide) (by decide)))
  replace F_accepting_a := F_accepting_a.other W1 (Or.inr (slot_ne (Or.inr (hw _ (List.mem_of_getElem? (i := 20) rfl))) (Or.inr (hw _ (List.mem_of_getElem? (i := 16) rfl))) (by decide) (t := (.array .boolean)) (t' := (.array .int)) (by decide) (by decide)))
  replace F_distances_a := F_distances_a.other W1 (Or.inr (slot_ne (Or.inr (hw _ (List.mem_of_getElem? (i := 41) rfl))) (Or.inr (hw _ (List.mem_of_getElem? (i := 16) rfl))) (by decide) (t := (.array .int)) (t' := (.array .int)) (by decide) (by decide)))
  replace X_a := X_a.wr W1
  replace V_st := V_st.other W1 ne_st_a
  replace V_tb := V_tb.other W1 ne_tb_a
  replace V_ac := V_ac.other W1 ne_ac_a
  replace Zs := Nat.le_trans Zs (Nat.le_of_eq W1.size.symm)
  replace K := K.wr W1 (Or.inl (by simp))
  replace r : A2 l Z n0 D h2 0 0 10 #[.val (.ref a), .val (.ref st), .val (.ref tb), .val (.ref ac)] [(.ref a)] := Own.aloadN r d2_9 rfl rfl
  replace r : A2 l Z n0 D h2 0 0 11 #[.val (.ref a), .val (.ref st), .val (.ref tb), .val (.ref ac)] [(.ref tb), (.ref a)] := Own.aloadN r d2_10 rfl rfl
  obtain ⟨h4, W3, r⟩ := Own.putfield r d2_11 (host := "") (Or.inl (hw _ (List.mem_of_getElem? (i := 17) rfl))) Via.refl F_table_a X_a (Or.inr ⟨(hw _ (List.mem_of_getElem? (i := 18) rfl)), rfl, rfl⟩) (hw _ (List.mem_of_getElem? (i := 7) rfl)) (ty := (.array .int)) (by decide) rfl rfl ge_a
  replace r : A2 l Z n0 D h4 0 0 14 #[.val (.ref a), .val (.ref st), .val (.ref tb), .val (.ref ac)] [] := r
  replace F_starts_a := F_starts_a.other W3 (Or.inr (slot_ne (Or.inr (hw _ (List.mem_of_getElem? (i := 16) rfl))) (Or.inr (hw _ (List.mem_of_getElem? (i := 18) rfl))) (by decide) (t := (.array .int)) (t' := (.array .int)) (by decide) (by decide)))
  replace F_table_a := F_table_a.same W3
  replace F_accepting_a := F_accepting_a.other W3 (Or.inr (slot_ne (Or.inr (hw _ (List.mem_of_getElem? (i := 20) rfl))) (Or.inr (hw _ (List.mem_of_getElem? (i := 18) rfl))) (by decide) (t := (.array .boolean)) (t' := (.array .int)) (by decide) (by decide)))
  replace F_distances_a := F_distances_a.other W3 (Or.inr (slot_ne (Or.inr (hw _ (List.mem_of_getElem? (i := 41) rfl))) (Or.inr (hw _ (List.mem_of_getElem? (i := 18) rfl))) (by decide) (t := (.array .int)) (t' := (.array .int)) (by decide) (by decide)))
  replace X_a := X_a.wr W3
  replace V_st := V_st.other W3 ne_st_a
  replace V_tb := V_tb.other W3 ne_tb_a
  replace V_ac := V_ac.other W3 ne_ac_a
  replace Zs := Nat.le_trans Zs (Nat.le_of_eq W3.size.symm)
  replace K := K.wr W3 (Or.inl (by simp))
  replace r : A2 l Z n0 D h4 0 0 15 #[.val (.ref a), .val (.ref st), .val (.ref tb), .val (.ref ac)] [(.ref a)] := Own.aloadN r d2_14 rfl rfl
  replace r : A2 l Z n0 D h4 0 0 16 #[.val (.ref a), .val (.ref st), .val (.ref tb), .val (.ref ac)] [(.ref ac), (.ref a)] := Own.aloadN r d2_15 rfl rfl
  obtain ⟨h6, W5, r⟩ := Own.putfield r d2_16 (host := "") (Or.inl (hw _ (List.mem_of_getElem? (i := 19) rfl))) Via.refl F_accepting_a X_a (Or.inr ⟨(hw _ (List.mem_of_getElem? (i := 20) rfl)), rfl, rfl⟩) (hw _ (List.mem_of_getElem? (i := 7) rfl)) (ty := (.array .boolean)) (by decide) rfl rfl ge_a
  replace r : A2 l Z n0 D h6 0 0 19 #[.val (.ref a), .val (.ref st), .val (.ref tb), .val (.ref ac)] [] := r
  replace F_starts_a := F_starts_a.other W5 (Or.inr (slot_ne (Or.inr (hw _ (List.mem_of_getElem? (i := 16) rfl))) (Or.inr (hw _ (List.mem_of_getElem? (i := 20) rfl))) (by decide) (t := (.array .int)) (t' := (.array .boolean)) (by decide) (by decide)))
  replace F_table_a := F_table_a.other W5 (Or.inr (slot_ne (Or.inr (hw _ (List.mem_of_getElem? (i := 18) rfl))) (Or.inr (hw _ (List.mem_of_getElem? (i := 20) rfl))) (by decide) (t := (.array .int)) (t' := (.array .boolean)) (by decide) (by decide)))
  replace F_accepting_a := F_accepting_a.same W5
  replace F_distances_a := F_distances_a.other W5 (Or.inr (slot_ne (Or.inr (hw _ (List.mem_of_getElem? (i := 41) rfl))) (Or.inr (hw _ (List.mem_of_getElem? (i := 20) rfl))) (by decide) (t := (.array .int)) (t' := (.array .boolean)) (by decide) (by decide)))
  replace X_a := X_a.wr W5
  replace V_st := V_st.other W5 ne_st_a
  replace V_tb := V_tb.other W5 ne_tb_a
  replace V_ac := V_ac.other W5 ne_ac_a
  replace Zs := Nat.le_trans Zs (Nat.le_of_eq W5.size.symm)
  replace K := K.wr W5 (Or.inl (by simp))
  replace r : A2 l Z n0 D h6 0 0 20 #[.val (.ref a), .val (.ref st), .val (.ref tb), .val (.ref ac)] [(.ref a)] := Own.aloadN r d2_19 rfl rfl
  replace r : A2 l Z n0 D h6 0 0 21 #[.val (.ref a), .val (.ref st), .val (.ref tb), .val (.ref ac)] [(.ref a), (.ref a)] := Own.aloadN r d2_20 rfl rfl
  obtain ⟨rv7, h8, hQ9, r⟩ := Own.callP [] r d2_21 (c4 l Z a0 hw n0 h6 Zs a st tb ac T A SL F_starts_a V_st F_table_a V_tb F_accepting_a V_ac hT hTl hA hAv hSL d hm ) X_a (hw _ (List.mem_of_getElem? (i := 21) rfl)) (hw _ (List.mem_of_getElem? (i := 22) rfl)) (hw _ (List.mem_of_getElem? (i := 7) rfl)) (hw _ (List.mem_of_getElem? (i := 23) rfl)) (hw _ (List.mem_of_getElem? (i := 8) rfl)) (hw _ (List.mem_of_getElem? (i := 24) rfl)) (lenOf pd_2_0 rfl) rfl rfl (W := 1) (Nat.le_of_eq rfl) rfl (by decide) (by decide) (by decide) (by decide) (by decide)
  obtain ⟨bd, rfl, sz1_bd, K10, V_bd⟩ := hQ9
  have ge_bd : n0 ≤ bd := Nat.le_trans Zs sz1_bd
  have sz_bd : h.size ≤ bd := Nat.le_trans K.1 sz1_bd
  have ne_a_bd : a ≠ bd := Nat.ne_of_lt (Nat.lt_of_lt_of_le F_starts_a.lt sz1_bd)
  have ne_ac_bd : ac ≠ bd := Nat.ne_of_lt (Nat.lt_of_lt_of_le V_ac.lt sz1_bd)
  have ne_st_bd : st ≠ bd := Nat.ne_of_lt (Nat.lt_of_lt_of_le V_st.lt sz1_bd)
  have ne_tb_bd : tb ≠ bd := Nat.ne_of_lt (Nat.lt_of_lt_of_le V_tb.lt sz1_bd)
  replace F_starts_a := F_starts_a.keep K10 (by simp)
  replace F_table_a := F_table_a.keep K10 (by simp)
  replace F_accepting_a := F_accepting_a.keep K10 (by simp)
  replace F_distances_a := F_distances_a.keep K10 (by simp)
  replace X_a := X_a.keep K10
  replace V_st := V_st.keep K10 (by simp)
  replace V_tb := V_tb.keep K10 (by simp)
  replace V_ac := V_ac.keep K10 (by simp)
  replace Zs := Nat.le_trans Zs K10.1
  replace K := K.trans K10 (by simp)
  replace r : A2 l Z n0 D h8 5 30 24 #[.val (.ref a), .val (.ref st), .val (.ref tb), .val (.ref ac)] [(.ref bd), (.ref a)] := r
  obtain ⟨h12, W11, r⟩ := Own.putfield r d2_24 (host := "") (Or.inl (hw _ (List.mem_of_getElem? (i := 40) rfl))) Via.refl F_distances_a X_a (Or.inr ⟨(hw _ (List.mem_of_getElem? (i := 41) rfl)), rfl, rfl⟩) (hw _ (List.mem_of_getElem? (i := 7) rfl)) (ty := (.array .int)) (by decide) rfl rfl ge_a
  replace r : A2 l Z n0 D h12 5 30 27 #[.val (.ref a), .val (.ref st), .val (.ref tb), .val (.ref ac)] [] := r
  replace F_starts_a := F_starts_a.other W11 (Or.inr (slot_ne (Or.inr (hw _ (List.mem_of_getElem? (i := 16) rfl))) (Or.inr (hw _ (List.mem_of_getElem? (i := 41) rfl))) (by decide) (t := (.array .int)) (t' := (.array .int)) (by decide) (by decide)))
  replace F_table_a := F_table_a.other W11 (Or.inr (slot_ne (Or.inr (hw _ (List.mem_of_getElem? (i := 18) rfl))) (Or.inr (hw _ (List.mem_of_getElem? (i := 41) rfl))) (by decide) (t := (.array .int)) (t' := (.array .int)) (by decide) (by decide)))
  replace F_accepting_a := F_accepting_a.other W11 (Or.inr (slot_ne (Or.inr (hw _ (List.mem_of_getElem? (i := 20) rfl))) (Or.inr (hw _ (List.mem_of_getElem? (i := 41) rfl))) (by decide) (t := (.array .boolean)) (t' := (.array .int)) (by decide) (by decide)))
  replace F_distances_a := F_distances_a.same W11
  replace X_a := X_a.wr W11
  replace V_st := V_st.other W11 ne_st_a
  replace V_tb := V_tb.other W11 ne_tb_a
  replace V_ac := V_ac.other W11 ne_ac_a
  replace V_bd := V_bd.other W11 (Ne.symm ne_a_bd)
  replace Zs := Nat.le_trans Zs (Nat.le_of_eq W11.size.symm)
  replace K := K.wr W11 (Or.inl (by simp))
  exact ⟨_, _, (Own.Rch.ret0 r d2_27).more (by decide) (by decide), rfl, K, X_a, F_starts_a, F_table_a, F_accepting_a, bd, sz_bd, F_distances_a, V_bd⟩
theorem d1_0 : decode method_3_code 0 = .ok (.iload_n 0, 1) := by decide +kernel
theorem d1_1 : decode method_3_code 1 = .ok (.iconst 2, 1) := by decide +kernel
theorem d1_2 : decode method_3_code 2 = .ok (.iload_n 1, 1) := by decide +kernel
theorem d1_3 : decode method_3_code 3 = .ok (.imul, 1) := by decide +kernel
theorem d1_4 : decode method_3_code 4 = .ok (.iushr, 1) := by decide +kernel
theorem d1_5 : decode method_3_code 5 = .ok (.iconst 3, 1) := by decide +kernel
theorem d1_6 : decode method_3_code 6 = .ok (.iand, 1) := by decide +kernel
theorem d1_7 : decode method_3_code 7 = .ok (.iload_n 2, 1) := by decide +kernel
theorem d1_8 : decode method_3_code 8 = .ok (.iconst 1, 1) := by decide +kernel
theorem d1_9 : decode method_3_code 9 = .ok (.iadd, 1) := by decide +kernel
theorem d1_10 : decode method_3_code 10 = .ok (.irem, 1) := by decide +kernel
theorem d1_11 : decode method_3_code 11 = .ok (.iconst 1, 1) := by decide +kernel
theorem d1_12 : decode method_3_code 12 = .ok (.isub, 1) := by decide +kernel
theorem d1_13 : decode method_3_code 13 = .ok (.ireturn, 1) := by decide +kernel
theorem pn_1 : plainFor (⟨"com/example/ref_access_rules/refaccessrules/pattern/DfaNextPinLaw", "cell", "(III)I"⟩ : MethodName) = true := plainFor_of_name (by first | (simp [plainName, overriddenIn, x]; done) | decide +kernel)
theorem ef_1 (p0 : Int32) (p1 : Int32) (p2 : Int32) (m : MethodId) : entryFrame m #[(.int p0), (.int p1), (.int p2)] 3 = mkF m 0 #[.val (.int p0), .val (.int p1), .val (.int p2)] [] := by first | (simp [entryFrame, mkF, argsToLocals, Value.category, maxLocals]; done) | rfl
abbrev R1 : Room := ({ frames := 0, cells := 0, slots := 0, locals := 0 } : Room)
abbrev A1 (l : Launch) (Z : State) (n0 : Nat) (D : Own.Dyn) := Own.Rch l Z n0 R1 (⟨"com/example/ref_access_rules/refaccessrules/pattern/DfaNextPinLaw", "cell", "(III)I"⟩ : MethodName) method_3_code 3 (some .int) D
def S1 (p0 : Int32) (p1 : Int32) (p2 : Int32) (w : Int32) : Prop := w = ((((Own.iushrW p0 ((2 : Int32) * p1)) &&& (3 : Int32)) % (p2 + (1 : Int32))) - (1 : Int32))
set_option maxRecDepth 65536 in
set_option maxHeartbeats 40000000 in
theorem c1 (l : Launch) (Z : State) (a0 : Array Value) (hw : ∀ d ∈ tables_1, d.before a0 Z = true) (n0 : Nat) (h : Heap) (Zs : n0 ≤ h.size) (p0 : Int32) (p1 : Int32) (p2 : Int32) (hz : p2 + (1 : Int32) ≠ 0) :
    Own.Con l Z n0 (⟨"com/example/ref_access_rules/refaccessrules/pattern/DfaNextPinLaw", "cell", "(III)I"⟩ : MethodName) method_3_code 3 (some .int) R1 #[(.int p0), (.int p1), (.int p2)] h (fun v h' => h = h' ∧ ∃ w : Int32, v = some (.int w) ∧ S1 p0 p1 p2 w) := by
  refine Own.Con.enter pn_1 (ef_1 p0 p1 p2) fun D r => ?_
  replace r : A1 l Z n0 D h 0 0 1 #[.val (.int p0), .val (.int p1), .val (.int p2)] [(.int p0)] := Own.iloadN r d1_0 rfl
  replace r : A1 l Z n0 D h 0 0 2 #[.val (.int p0), .val (.int p1), .val (.int p2)] [(.int (2 : Int32)), (.int p0)] := Own.iconst r d1_1 rfl
  replace r : A1 l Z n0 D h 0 0 3 #[.val (.int p0), .val (.int p1), .val (.int p2)] [(.int p1), (.int (2 : Int32)), (.int p0)] := Own.iloadN r d1_2 rfl
  replace r : A1 l Z n0 D h 0 0 4 #[.val (.int p0), .val (.int p1), .val (.int p2)] [(.int ((2 : Int32) * p1)), (.int p0)] := Own.imul r d1_3
  replace r : A1 l Z n0 D h 0 0 5 #[.val (.int p0), .val (.int p1), .val (.int p2)] [(.int (Own.iushrW p0 ((2 : Int32) * p1)))] := Own.iushr r d1_4
  replace r : A1 l Z n0 D h 0 0 6 #[.val (.int p0), .val (.int p1), .val (.int p2)] [(.int (3 : Int32)), (.int (Own.iushrW p0 ((2 : Int32) * p1)))] := Own.iconst r d1_5 rfl
  replace r : A1 l Z n0 D h 0 0 7 #[.val (.int p0), .val (.int p1), .val (.int p2)] [(.int ((Own.iushrW p0 ((2 : Int32) * p1)) &&& (3 : Int32)))] := Own.iand r d1_6
  replace r : A1 l Z n0 D h 0 0 8 #[.val (.int p0), .val (.int p1), .val (.int p2)] [(.int p2), (.int ((Own.iushrW p0 ((2 : Int32) * p1)) &&& (3 : Int32)))] := Own.iloadN r d1_7 rfl
  replace r : A1 l Z n0 D h 0 0 9 #[.val (.int p0), .val (.int p1), .val (.int p2)] [(.int (1 : Int32)), (.int p2), (.int ((Own.iushrW p0 ((2 : Int32) * p1)) &&& (3 : Int32)))] := Own.iconst r d1_8 rfl
  replace r : A1 l Z n0 D h 0 0 10 #[.val (.int p0), .val (.int p1), .val (.int p2)] [(.int (p2 + (1 : Int32))), (.int ((Own.iushrW p0 ((2 : Int32) * p1)) &&& (3 : Int32)))] := Own.iadd r d1_9
  replace r : A1 l Z n0 D h 0 0 11 #[.val (.int p0), .val (.int p1), .val (.int p2)] [(.int (((Own.iushrW p0 ((2 : Int32) * p1)) &&& (3 : Int32)) % (p2 + (1 : Int32))))] := Own.irem r d1_10 hz
  replace r : A1 l Z n0 D h 0 0 12 #[.val (.int p0), .val (.int p1), .val (.int p2)] [(.int (1 : Int32)), (.int (((Own.iushrW p0 ((2 : Int32) * p1)) &&& (3 : Int32)) % (p2 + (1 : Int32))))] := Own.iconst r d1_11 rfl
  replace r : A1 l Z n0 D h 0 0 13 #[.val (.int p0), .val (.int p1), .val (.int p2)] [(.int ((((Own.iushrW p0 ((2 : Int32) * p1)) &&& (3 : Int32)) % (p2 + (1 : Int32))) - (1 : Int32)))] := Own.isub r d1_12
  exact ⟨_, _, (Own.Rch.retI r d1_13).more (by decide) (by decide), rfl, _, rfl, rfl⟩
theorem d8_0 : decode prog_20_method_9_code 0 = .ok (.aload_n 0, 1) := by decide +kernel
theorem d8_1 : decode prog_20_method_9_code 1 = .ok (.getfield 13, 3) := by decide +kernel
theorem d8_4 : decode prog_20_method_9_code 4 = .ok (.iload_n 1, 1) := by decide +kernel
theorem d8_5 : decode prog_20_method_9_code 5 = .ok (.aload_n 0, 1) := by decide +kernel
theorem d8_6 : decode prog_20_method_9_code 6 = .ok (.getfield 7, 3) := by decide +kernel
theorem d8_9 : decode prog_20_method_9_code 9 = .ok (.arraylength, 1) := by decide +kernel
theorem d8_10 : decode prog_20_method_9_code 10 = .ok (.imul, 1) := by decide +kernel
theorem d8_11 : decode prog_20_method_9_code 11 = .ok (.iload_n 2, 1) := by decide +kernel
theorem d8_12 : decode prog_20_method_9_code 12 = .ok (.iadd, 1) := by decide +kernel
theorem d8_13 : decode prog_20_method_9_code 13 = .ok (.iaload, 1) := by decide +kernel
theorem d8_14 : decode prog_20_method_9_code 14 = .ok (.ireturn, 1) := by decide +kernel
theorem pn_8 : plainFor (⟨"com/example/ref_access_rules/refaccessrules/pattern/Dfa", "next", "(II)I"⟩ : MethodName) = true := plainFor_of_name (by first | (simp [plainName, overriddenIn, x]; done) | decide +kernel)
theorem ef_8 (a : Addr) (p1 : Int32) (p2 : Int32) (m : MethodId) : entryFrame m #[(.ref a), (.int p1), (.int p2)] 3 = mkF m 0 #[.val (.ref a), .val (.int p1), .val (.int p2)] [] := by first | (simp [entryFrame, mkF, argsToLocals, Value.category, maxLocals]; done) | rfl
abbrev R8 : Room := ({ frames := 0, cells := 0, slots := 0, locals := 0 } : Room)
abbrev A8 (l : Launch) (Z : State) (n0 : Nat) (D : Own.Dyn) := Own.Rch l Z n0 R8 (⟨"com/example/ref_access_rules/refaccessrules/pattern/Dfa", "next", "(II)I"⟩ : MethodName) prog_20_method_9_code 3 (some .int) D
set_option maxRecDepth 65536 in
set_option maxHeartbeats 40000000 in
theorem c8 (l : Launch) (Z : State) (a0 : Array Value) (hw : ∀ d ∈ tables_1, d.before a0 Z = true) (n0 : Nat) (h : Heap) (Zs : n0 ≤ h.size) (a : Addr) (p1 : Int32) (p2 : Int32) (st tb : Addr) (SL TL : List Int32) (F_starts_a : Fld Z h a "com/example/ref_access_rules/refaccessrules/pattern/Dfa" "starts" "[I" (.ref st)) (F_table_a : Fld Z h a "com/example/ref_access_rules/refaccessrules/pattern/Dfa" "table" "[I" (.ref tb)) (V_st : Own.VA Z h st .int (SL.map Value.int)) (V_tb : Own.VA Z h tb .int (TL.map Value.int)) (n13 : Nat) (v13 : Int32) (q13 : Own.Ix ((p1 * (Own.I SL.length)) + p2) n13) (g13 : TL[n13]? = some v13) :
    Own.Con l Z n0 (⟨"com/example/ref_access_rules/refaccessrules/pattern/Dfa", "next", "(II)I"⟩ : MethodName) prog_20_method_9_code 3 (some .int) R8 #[(.ref a), (.int p1), (.int p2)] h (fun v h' => h = h' ∧ v = some (.int v13)) := by
  refine Own.Con.enter pn_8 (ef_8 a p1 p2) fun D r => ?_
  replace r : A8 l Z n0 D h 0 0 1 #[.val (.ref a), .val (.int p1), .val (.int p2)] [(.ref a)] := Own.aloadN r d8_0 rfl rfl
  replace r : A8 l Z n0 D h 0 0 4 #[.val (.ref a), .val (.int p1), .val (.int p2)] [(.ref tb)] := Own.getfield r d8_1 (host := "") (Or.inl (hw _ (List.mem_of_getElem? (i := 17) rfl))) Via.refl F_table_a
  replace r : A8 l Z n0 D h 0 0 5 #[.val (.ref a), .val (.int p1), .val (.int p2)] [(.int p1), (.ref tb)] := Own.iloadN r d8_4 rfl
  replace r : A8 l Z n0 D h 0 0 6 #[.val (.ref a), .val (.int p1), .val (.int p2)] [(.ref a), (.int p1), (.ref tb)] := Own.aloadN r d8_5 rfl rfl
  replace r : A8 l Z n0 D h 0 0 9 #[.val (.ref a), .val (.int p1), .val (.int p2)] [(.ref st), (.int p1), (.ref tb)] := Own.getfield r d8_6 (host := "") (Or.inl (hw _ (List.mem_of_getElem? (i := 15) rfl))) Via.refl F_starts_a
  replace r : A8 l Z n0 D h 0 0 10 #[.val (.ref a), .val (.int p1), .val (.int p2)] [(.int (Own.I SL.length)), (.int p1), (.ref tb)] := Own.arrlen r d8_9 V_st (by rw [List.length_map]; rfl)
  replace r : A8 l Z n0 D h 0 0 11 #[.val (.ref a), .val (.int p1), .val (.int p2)] [(.int (p1 * (Own.I SL.length))), (.ref tb)] := Own.imul r d8_10
  replace r : A8 l Z n0 D h 0 0 12 #[.val (.ref a), .val (.int p1), .val (.int p2)] [(.int p2), (.int (p1 * (Own.I SL.length))), (.ref tb)] := Own.iloadN r d8_11 rfl
  replace r : A8 l Z n0 D h 0 0 13 #[.val (.ref a), .val (.int p1), .val (.int p2)] [(.int ((p1 * (Own.I SL.length)) + p2)), (.ref tb)] := Own.iadd r d8_12
  replace r : A8 l Z n0 D h 0 0 14 #[.val (.ref a), .val (.int p1), .val (.int p2)] [(.int v13)] := Own.iaload r d8_13 V_tb q13.1 (Own.Ix.get q13 g13)
  exact ⟨_, _, (Own.Rch.retI r d8_14).more (by decide) (by decide), rfl, rfl⟩
theorem pd_0_0 : parseMethodDescriptor "(III)I" = some ⟨[.int, .int, .int], some .int⟩ := by decide +kernel
theorem pd_0_1 : parseMethodDescriptor "([I[I[Z)V" = some ⟨[(.array .int), (.array .int), (.array .boolean)], none⟩ := by decide +kernel
theorem pd_0_2 : parseMethodDescriptor "(II)I" = some ⟨[.int, .int], some .int⟩ := by decide +kernel
theorem pn_0 : plainFor x = true := plainFor_of_name (by first | (simp [plainName, overriddenIn, x]; done) | decide +kernel)
theorem ef_0 (p0 : Int32) (p1 : Int32) (m : MethodId) : entryFrame m #[(.int p0), (.int p1)] maxLocals = mkF m 0 #[.val (.int p0), .val (.int p1), .unset, .unset, .unset, .unset, .unset, .unset, .unset, .unset, .unset, .unset, .unset, .unset] [] := by first | (simp [entryFrame, mkF, argsToLocals, Value.category, maxLocals]; done) | rfl
abbrev R0 : Room := room_1
abbrev A0 (l : Launch) (Z : State) (n0 : Nat) (D : Own.Dyn) := Own.Rch l Z n0 R0 x code maxLocals ret D
set_option maxRecDepth 65536 in
set_option maxHeartbeats 40000000 in
theorem c0 (l : Launch) (Z : State) (a0 : Array Value) (hw : ∀ d ∈ tables_1, d.before a0 Z = true) (n0 : Nat) (h : Heap) (Zs : n0 ≤ h.size) (p0 : Int32) (p1 : Int32) :
    Own.Con l Z n0 x code maxLocals ret R0 #[(.int p0), (.int p1)] h (fun v h' => v = some (.int 1)) := by
  refine Own.Con.enter pn_0 (ef_0 p0 p1) fun D r => ?_
  replace r : A0 l Z n0 D h 0 0 1 #[.val (.int p0), .val (.int p1), .unset, .unset, .unset, .unset, .unset, .unset, .unset, .unset, .unset, .unset, .unset, .unset] [(.int p1)] := Own.iloadN r at_0 rfl
  replace r : A0 l Z n0 D h 0 0 2 #[.val (.int p0), .val (.int p1), .unset, .unset, .unset, .unset, .unset, .unset, .unset, .unset, .unset, .unset, .unset, .unset] [(.int (1 : Int32)), (.int p1)] := Own.iconst r at_1 rfl
  replace r : A0 l Z n0 D h 0 0 3 #[.val (.int p0), .val (.int p1), .unset, .unset, .unset, .unset, .unset, .unset, .unset, .unset, .unset, .unset, .unset, .unset] [(.int (p1 &&& (1 : Int32)))] := Own.iand r at_2
  by_cases br1 : (p1 &&& (1 : Int32)) = (0 : Int32)
  · skip
    replace r : A0 l Z n0 D h 0 0 10 #[.val (.int p0), .val (.int p1), .unset, .unset, .unset, .unset, .unset, .unset, .unset, .unset, .unset, .unset, .unset, .unset] [] := Own.ifYes r at_3 ((if0 _ _).trans (teq br1).1) (by decide) (by decide)
    replace r : A0 l Z n0 D h 0 0 11 #[.val (.int p0), .val (.int p1), .unset, .unset, .unset, .unset, .unset, .unset, .unset, .unset, .unset, .unset, .unset, .unset] [(.int (0 : Int32))] := Own.iconst r at_10 rfl
    replace r : A0 l Z n0 D h 0 0 12 #[.val (.int p0), .val (.int p1), .val (.int (0 : Int32)), .unset, .unset, .unset, .unset, .unset, .unset, .unset, .unset, .unset, .unset, .unset] [] := Own.istoreN r at_11 rfl
    replace r : A0 l Z n0 D h 0 0 13 #[.val (.int p0), .val (.int p1), .val (.int (0 : Int32)), .unset, .unset, .unset, .unset, .unset, .unset, .unset, .unset, .unset, .unset, .unset] [(.int (0 : Int32))] := Own.iloadN r at_12 rfl
    replace r : A0 l Z n0 D h 0 0 20 #[.val (.int p0), .val (.int p1), .val (.int (0 : Int32)), .unset, .unset, .unset, .unset, .unset, .unset, .unset, .unset, .unset, .unset, .unset] [] := Own.ifYes r at_13 ((if0 _ _).trans (teq (by decide : (0 : Int32) = (0 : Int32))).1) (by decide) (by decide)
    replace r : A0 l Z n0 D h 0 0 21 #[.val (.int p0), .val (.int p1), .val (.int (0 : Int32)), .unset, .unset, .unset, .unset, .unset, .unset, .unset, .unset, .unset, .unset, .unset] [(.int (2 : Int32))] := Own.iconst r at_20 rfl
    replace r : A0 l Z n0 D h 0 0 22 #[.val (.int p0), .val (.int p1), .val (.int (0 : Int32)), .val (.int (2 : Int32)), .unset, .unset, .unset, .unset, .unset, .unset, .unset, .unset, .unset, .unset] [] := Own.istoreN r at_21 rfl
    replace r : A0 l Z n0 D h 0 0 23 #[.val (.int p0), .val (.int p1), .val (.int (0 : Int32)), .val (.int (2 : Int32)), .unset, .unset, .unset, .unset, .unset, .unset, .unset, .unset, .unset, .unset] [(.int p0)] := Own.iloadN r at_22 rfl
    replace r : A0 l Z n0 D h 0 0 24 #[.val (.int p0), .val (.int p1), .val (.int (0 : Int32)), .val (.int (2 : Int32)), .unset, .unset, .unset, .unset, .unset, .unset, .unset, .unset, .unset, .unset] [(.int (0 : Int32)), (.int p0)] := Own.iconst r at_23 rfl
    replace r : A0 l Z n0 D h 0 0 25 #[.val (.int p0), .val (.int p1), .val (.int (0 : Int32)), .val (.int (2 : Int32)), .unset, .unset, .unset, .unset, .unset, .unset, .unset, .unset, .unset, .unset] [(.int (2 : Int32)), (.int (0 : Int32)), (.int p0)] := Own.iloadN r at_24 rfl
    obtain ⟨rv2, h3, hQ4, r⟩ := Own.callS [(.int p0), (.int (0 : Int32)), (.int (2 : Int32))] r at_25 (c1 l Z a0 hw n0 h Zs p0 (0 : Int32) (2 : Int32) (by decide)) (hw _ (List.mem_of_getElem? (i := 0) rfl)) (hw _ (List.mem_of_getElem? (i := 1) rfl)) (hw _ (List.mem_of_getElem? (i := 2) rfl)) (hw _ (List.mem_of_getElem? (i := 3) rfl)) (lenOf pd_0_0 rfl) rfl rfl (W := 0) (Nat.le_of_eq rfl) rfl (by decide) (by decide) (by decide) (by decide) (by decide)
    obtain ⟨rfl, y5, rfl, e_y5⟩ := hQ4
    replace e_y5 : ((((Own.iushrW p0 ((2 : Int32) * (0 : Int32))) &&& (3 : Int32)) % ((2 : Int32) + (1 : Int32))) - (1 : Int32)) = y5 := e_y5.symm
    subst e_y5
    replace r : A0 l Z n0 D h 0 0 28 #[.val (.int p0), .val (.int p1), .val (.int (0 : Int32)), .val (.int (2 : Int32)), .unset, .unset, .unset, .unset, .unset, .unset, .unset, .unset, .unset, .unset] [(.int ((((Own.iushrW p0 ((2 : Int32) * (0 : Int32))) &&& (3 : Int32)) % ((2 : Int32) + (1 : Int32))) - (1 : Int32)))] := r
    obtain ⟨v4_6, e_v4_6⟩ : ∃ z : Int32, z = ((((Own.iushrW p0 ((2 : Int32) * (0 : Int32))) &&& (3 : Int32)) % ((2 : Int32) + (1 : Int32))) - (1 : Int32)) := ⟨_, rfl⟩
    replace r : A0 l Z n0 D h 0 0 28 #[.val (.int p0), .val (.int p1), .val (.int (0 : Int32)), .val (.int (2 : Int32)), .unset, .unset, .unset, .unset, .unset, .unset, .unset, .unset, .unset, .unset] [(.int v4_6)] := by rw [e_v4_6]; exact r
    replace r : A0 l Z n0 D h 0 0 30 #[.val (.int p0), .val (.int p1), .val (.int (0 : Int32)), .val (.int (2 : Int32)), .val (.int v4_6), .unset, .unset, .unset, .unset, .unset, .unset, .unset, .unset, .unset] [] := Own.istore r at_28 rfl
    replace r : A0 l Z n0 D h 0 0 31 #[.val (.int p0), .val (.int p1), .val (.int (0 : Int32)), .val (.int (2 : Int32)), .val (.int v4_6), .unset, .unset, .unset, .unset, .unset, .unset, .unset, .unset, .unset] [(.int p0)] := Own.iloadN r at_30 rfl
    replace r : A0 l Z n0 D h 0 0 32 #[.val (.int p0), .val (.int p1), .val (.int (0 : Int32)), .val (.int (2 : Int32)), .val (.int v4_6), .unset, .unset, .unset, .unset, .unset, .unset, .unset, .unset, .unset] [(.int (1 : Int32)), (.int p0)] := Own.iconst r at_31 rfl
    replace r : A0 l Z n0 D h 0 0 33 #[.val (.int p0), .val (.int p1), .val (.int (0 : Int32)), .val (.int (2 : Int32)), .val (.int v4_6), .unset, .unset, .unset, .unset, .unset, .unset, .unset, .unset, .unset] [(.int (2 : Int32)), (.int (1 : Int32)), (.int p0)] := Own.iloadN r at_32 rfl
    obtain ⟨rv7, h8, hQ9, r⟩ := Own.callS [(.int p0), (.int (1 : Int32)), (.int (2 : Int32))] r at_33 (c1 l Z a0 hw n0 h Zs p0 (1 : Int32) (2 : Int32) (by decide)) (hw _ (List.mem_of_getElem? (i := 0) rfl)) (hw _ (List.mem_of_getElem? (i := 1) rfl)) (hw _ (List.mem_of_getElem? (i := 2) rfl)) (hw _ (List.mem_of_getElem? (i := 3) rfl)) (lenOf pd_0_0 rfl) rfl rfl (W := 0) (Nat.le_of_eq rfl) rfl (by decide) (by decide) (by decide) (by decide) (by decide)
    obtain ⟨rfl, y10, rfl, e_y10⟩ := hQ9
    replace e_y10 : ((((Own.iushrW p0 ((2 : Int32) * (1 : Int32))) &&& (3 : Int32)) % ((2 : Int32) + (1 : Int32))) - (1 : Int32)) = y10 := e_y10.symm
    subst e_y10
    replace r : A0 l Z n0 D h 0 0 36 #[.val (.int p0), .val (.int p1), .val (.int (0 : Int32)), .val (.int (2 : Int32)), .val (.int v4_6), .unset, .unset, .unset, .unset, .unset, .unset, .unset, .unset, .unset] [(.int ((((Own.iushrW p0 ((2 : Int32) * (1 : Int32))) &&& (3 : Int32)) % ((2 : Int32) + (1 : Int32))) - (1 : Int32)))] := r
    obtain ⟨v5_11, e_v5_11⟩ : ∃ z : Int32, z = ((((Own.iushrW p0 ((2 : Int32) * (1 : Int32))) &&& (3 : Int32)) % ((2 : Int32) + (1 : Int32))) - (1 : Int32)) := ⟨_, rfl⟩
    replace r : A0 l Z n0 D h 0 0 36 #[.val (.int p0), .val (.int p1), .val (.int (0 : Int32)), .val (.int (2 : Int32)), .val (.int v4_6), .unset, .unset, .unset, .unset, .unset, .unset, .unset, .unset, .unset] [(.int v5_11)] := by rw [e_v5_11]; exact r
    replace r : A0 l Z n0 D h 0 0 38 #[.val (.int p0), .val (.int p1), .val (.int (0 : Int32)), .val (.int (2 : Int32)), .val (.int v4_6), .val (.int v5_11), .unset, .unset, .unset, .unset, .unset, .unset, .unset, .unset] [] := Own.istore r at_36 rfl
    replace r : A0 l Z n0 D h 0 0 39 #[.val (.int p0), .val (.int p1), .val (.int (0 : Int32)), .val (.int (2 : Int32)), .val (.int v4_6), .val (.int v5_11), .unset, .unset, .unset, .unset, .unset, .unset, .unset, .unset] [(.int p0)] := Own.iloadN r at_38 rfl
    replace r : A0 l Z n0 D h 0 0 40 #[.val (.int p0), .val (.int p1), .val (.int (0 : Int32)), .val (.int (2 : Int32)), .val (.int v4_6), .val (.int v5_11), .unset, .unset, .unset, .unset, .unset, .unset, .unset, .unset] [(.int (2 : Int32)), (.int p0)] := Own.iconst r at_39 rfl
    replace r : A0 l Z n0 D h 0 0 41 #[.val (.int p0), .val (.int p1), .val (.int (0 : Int32)), .val (.int (2 : Int32)), .val (.int v4_6), .val (.int v5_11), .unset, .unset, .unset, .unset, .unset, .unset, .unset, .unset] [(.int (2 : Int32)), (.int (2 : Int32)), (.int p0)] := Own.iloadN r at_40 rfl
    obtain ⟨rv12, h13, hQ14, r⟩ := Own.callS [(.int p0), (.int (2 : Int32)), (.int (2 : Int32))] r at_41 (c1 l Z a0 hw n0 h Zs p0 (2 : Int32) (2 : Int32) (by decide)) (hw _ (List.mem_of_getElem? (i := 0) rfl)) (hw _ (List.mem_of_getElem? (i := 1) rfl)) (hw _ (List.mem_of_getElem? (i := 2) rfl)) (hw _ (List.mem_of_getElem? (i := 3) rfl)) (lenOf pd_0_0 rfl) rfl rfl (W := 0) (Nat.le_of_eq rfl) rfl (by decide) (by decide) (by decide) (by decide) (by decide)
    obtain ⟨rfl, y15, rfl, e_y15⟩ := hQ14
    replace e_y15 : ((((Own.iushrW p0 ((2 : Int32) * (2 : Int32))) &&& (3 : Int32)) % ((2 : Int32) + (1 : Int32))) - (1 : Int32)) = y15 := e_y15.symm
    subst e_y15
    replace r : A0 l Z n0 D h 0 0 44 #[.val (.int p0), .val (.int p1), .val (.int (0 : Int32)), .val (.int (2 : Int32)), .val (.int v4_6), .val (.int v5_11), .unset, .unset, .unset, .unset, .unset, .unset, .unset, .unset] [(.int ((((Own.iushrW p0 ((2 : Int32) * (2 : Int32))) &&& (3 : Int32)) % ((2 : Int32) + (1 : Int32))) - (1 : Int32)))] := r
    obtain ⟨v6_16, e_v6_16⟩ : ∃ z : Int32, z = ((((Own.iushrW p0 ((2 : Int32) * (2 : Int32))) &&& (3 : Int32)) % ((2 : Int32) + (1 : Int32))) - (1 : Int32)) := ⟨_, rfl⟩
    replace r : A0 l Z n0 D h 0 0 44 #[.val (.int p0), .val (.int p1), .val (.int (0 : Int32)), .val (.int (2 : Int32)), .val (.int v4_6), .val (.int v5_11), .unset, .unset, .unset, .unset, .unset, .unset, .unset, .unset] [(.int v6_16)] := by rw [e_v6_16]; exact r
    replace r : A0 l Z n0 D h 0 0 46 #[.val (.int p0), .val (.int p1), .val (.int (0 : Int32)), .val (.int (2 : Int32)), .val (.int v4_6), .val (.int v5_11), .val (.int v6_16), .unset, .unset, .unset, .unset, .unset, .unset, .unset] [] := Own.istore r at_44 rfl
    replace r : A0 l Z n0 D h 0 0 47 #[.val (.int p0), .val (.int p1), .val (.int (0 : Int32)), .val (.int (2 : Int32)), .val (.int v4_6), .val (.int v5_11), .val (.int v6_16), .unset, .unset, .unset, .unset, .unset, .unset, .unset] [(.int p0)] := Own.iloadN r at_46 rfl
    replace r : A0 l Z n0 D h 0 0 48 #[.val (.int p0), .val (.int p1), .val (.int (0 : Int32)), .val (.int (2 : Int32)), .val (.int v4_6), .val (.int v5_11), .val (.int v6_16), .unset, .unset, .unset, .unset, .unset, .unset, .unset] [(.int (3 : Int32)), (.int p0)] := Own.iconst r at_47 rfl
    replace r : A0 l Z n0 D h 0 0 49 #[.val (.int p0), .val (.int p1), .val (.int (0 : Int32)), .val (.int (2 : Int32)), .val (.int v4_6), .val (.int v5_11), .val (.int v6_16), .unset, .unset, .unset, .unset, .unset, .unset, .unset] [(.int (2 : Int32)), (.int (3 : Int32)), (.int p0)] := Own.iloadN r at_48 rfl
    obtain ⟨rv17, h18, hQ19, r⟩ := Own.callS [(.int p0), (.int (3 : Int32)), (.int (2 : Int32))] r at_49 (c1 l Z a0 hw n0 h Zs p0 (3 : Int32) (2 : Int32) (by decide)) (hw _ (List.mem_of_getElem? (i := 0) rfl)) (hw _ (List.mem_of_getElem? (i := 1) rfl)) (hw _ (List.mem_of_getElem? (i := 2) rfl)) (hw _ (List.mem_of_getElem? (i := 3) rfl)) (lenOf pd_0_0 rfl) rfl rfl (W := 0) (Nat.le_of_eq rfl) rfl (by decide) (by decide) (by decide) (by decide) (by decide)
    obtain ⟨rfl, y20, rfl, e_y20⟩ := hQ19
    replace e_y20 : ((((Own.iushrW p0 ((2 : Int32) * (3 : Int32))) &&& (3 : Int32)) % ((2 : Int32) + (1 : Int32))) - (1 : Int32)) = y20 := e_y20.symm
    subst e_y20
    replace r : A0 l Z n0 D h 0 0 52 #[.val (.int p0), .val (.int p1), .val (.int (0 : Int32)), .val (.int (2 : Int32)), .val (.int v4_6), .val (.int v5_11), .val (.int v6_16), .unset, .unset, .unset, .unset, .unset, .unset, .unset] [(.int ((((Own.iushrW p0 ((2 : Int32) * (3 : Int32))) &&& (3 : Int32)) % ((2 : Int32) + (1 : Int32))) - (1 : Int32)))] := r
    obtain ⟨v7_21, e_v7_21⟩ : ∃ z : Int32, z = ((((Own.iushrW p0 ((2 : Int32) * (3 : Int32))) &&& (3 : Int32)) % ((2 : Int32) + (1 : Int32))) - (1 : Int32)) := ⟨_, rfl⟩
    replace r : A0 l Z n0 D h 0 0 52 #[.val (.int p0), .val (.int p1), .val (.int (0 : Int32)), .val (.int (2 : Int32)), .val (.int v4_6), .val (.int v5_11), .val (.int v6_16), .unset, .unset, .unset, .unset, .unset, .unset, .unset] [(.int v7_21)] := by rw [e_v7_21]; exact r
    replace r : A0 l Z n0 D h 0 0 54 #[.val (.int p0), .val (.int p1), .val (.int (0 : Int32)), .val (.int (2 : Int32)), .val (.int v4_6), .val (.int v5_11), .val (.int v6_16), .val (.int v7_21), .unset, .unset, .unset, .unset, .unset, .unset] [] := Own.istore r at_52 rfl
    replace r : A0 l Z n0 D h 0 0 55 #[.val (.int p0), .val (.int p1), .val (.int (0 : Int32)), .val (.int (2 : Int32)), .val (.int v4_6), .val (.int v5_11), .val (.int v6_16), .val (.int v7_21), .unset, .unset, .unset, .unset, .unset, .unset] [(.int p0)] := Own.iloadN r at_54 rfl
    replace r : A0 l Z n0 D h 0 0 56 #[.val (.int p0), .val (.int p1), .val (.int (0 : Int32)), .val (.int (2 : Int32)), .val (.int v4_6), .val (.int v5_11), .val (.int v6_16), .val (.int v7_21), .unset, .unset, .unset, .unset, .unset, .unset] [(.int (4 : Int32)), (.int p0)] := Own.iconst r at_55 rfl
    replace r : A0 l Z n0 D h 0 0 57 #[.val (.int p0), .val (.int p1), .val (.int (0 : Int32)), .val (.int (2 : Int32)), .val (.int v4_6), .val (.int v5_11), .val (.int v6_16), .val (.int v7_21), .unset, .unset, .unset, .unset, .unset, .unset] [(.int (2 : Int32)), (.int (4 : Int32)), (.int p0)] := Own.iloadN r at_56 rfl
    obtain ⟨rv22, h23, hQ24, r⟩ := Own.callS [(.int p0), (.int (4 : Int32)), (.int (2 : Int32))] r at_57 (c1 l Z a0 hw n0 h Zs p0 (4 : Int32) (2 : Int32) (by decide)) (hw _ (List.mem_of_getElem? (i := 0) rfl)) (hw _ (List.mem_of_getElem? (i := 1) rfl)) (hw _ (List.mem_of_getElem? (i := 2) rfl)) (hw _ (List.mem_of_getElem? (i := 3) rfl)) (lenOf pd_0_0 rfl) rfl rfl (W := 0) (Nat.le_of_eq rfl) rfl (by decide) (by decide) (by decide) (by decide) (by decide)
    obtain ⟨rfl, y25, rfl, e_y25⟩ := hQ24
    replace e_y25 : ((((Own.iushrW p0 ((2 : Int32) * (4 : Int32))) &&& (3 : Int32)) % ((2 : Int32) + (1 : Int32))) - (1 : Int32)) = y25 := e_y25.symm
    subst e_y25
    replace r : A0 l Z n0 D h 0 0 60 #[.val (.int p0), .val (.int p1), .val (.int (0 : Int32)), .val (.int (2 : Int32)), .val (.int v4_6), .val (.int v5_11), .val (.int v6_16), .val (.int v7_21), .unset, .unset, .unset, .unset, .unset, .unset] [(.int ((((Own.iushrW p0 ((2 : Int32) * (4 : Int32))) &&& (3 : Int32)) % ((2 : Int32) + (1 : Int32))) - (1 : Int32)))] := r
    obtain ⟨v8_26, e_v8_26⟩ : ∃ z : Int32, z = ((((Own.iushrW p0 ((2 : Int32) * (4 : Int32))) &&& (3 : Int32)) % ((2 : Int32) + (1 : Int32))) - (1 : Int32)) := ⟨_, rfl⟩
    replace r : A0 l Z n0 D h 0 0 60 #[.val (.int p0), .val (.int p1), .val (.int (0 : Int32)), .val (.int (2 : Int32)), .val (.int v4_6), .val (.int v5_11), .val (.int v6_16), .val (.int v7_21), .unset, .unset, .unset, .unset, .unset, .unset] [(.int v8_26)] := by rw [e_v8_26]; exact r
    replace r : A0 l Z n0 D h 0 0 62 #[.val (.int p0), .val (.int p1), .val (.int (0 : Int32)), .val (.int (2 : Int32)), .val (.int v4_6), .val (.int v5_11), .val (.int v6_16), .val (.int v7_21), .val (.int v8_26), .unset, .unset, .unset, .unset, .unset] [] := Own.istore r at_60 rfl
    replace r : A0 l Z n0 D h 0 0 63 #[.val (.int p0), .val (.int p1), .val (.int (0 : Int32)), .val (.int (2 : Int32)), .val (.int v4_6), .val (.int v5_11), .val (.int v6_16), .val (.int v7_21), .val (.int v8_26), .unset, .unset, .unset, .unset, .unset] [(.int p0)] := Own.iloadN r at_62 rfl
    replace r : A0 l Z n0 D h 0 0 64 #[.val (.int p0), .val (.int p1), .val (.int (0 : Int32)), .val (.int (2 : Int32)), .val (.int v4_6), .val (.int v5_11), .val (.int v6_16), .val (.int v7_21), .val (.int v8_26), .unset, .unset, .unset, .unset, .unset] [(.int (5 : Int32)), (.int p0)] := Own.iconst r at_63 rfl
    replace r : A0 l Z n0 D h 0 0 65 #[.val (.int p0), .val (.int p1), .val (.int (0 : Int32)), .val (.int (2 : Int32)), .val (.int v4_6), .val (.int v5_11), .val (.int v6_16), .val (.int v7_21), .val (.int v8_26), .unset, .unset, .unset, .unset, .unset] [(.int (2 : Int32)), (.int (5 : Int32)), (.int p0)] := Own.iloadN r at_64 rfl
    obtain ⟨rv27, h28, hQ29, r⟩ := Own.callS [(.int p0), (.int (5 : Int32)), (.int (2 : Int32))] r at_65 (c1 l Z a0 hw n0 h Zs p0 (5 : Int32) (2 : Int32) (by decide)) (hw _ (List.mem_of_getElem? (i := 0) rfl)) (hw _ (List.mem_of_getElem? (i := 1) rfl)) (hw _ (List.mem_of_getElem? (i := 2) rfl)) (hw _ (List.mem_of_getElem? (i := 3) rfl)) (lenOf pd_0_0 rfl) rfl rfl (W := 0) (Nat.le_of_eq rfl) rfl (by decide) (by decide) (by decide) (by decide) (by decide)
    obtain ⟨rfl, y30, rfl, e_y30⟩ := hQ29
    replace e_y30 : ((((Own.iushrW p0 ((2 : Int32) * (5 : Int32))) &&& (3 : Int32)) % ((2 : Int32) + (1 : Int32))) - (1 : Int32)) = y30 := e_y30.symm
    subst e_y30
    replace r : A0 l Z n0 D h 0 0 68 #[.val (.int p0), .val (.int p1), .val (.int (0 : Int32)), .val (.int (2 : Int32)), .val (.int v4_6), .val (.int v5_11), .val (.int v6_16), .val (.int v7_21), .val (.int v8_26), .unset, .unset, .unset, .unset, .unset] [(.int ((((Own.iushrW p0 ((2 : Int32) * (5 : Int32))) &&& (3 : Int32)) % ((2 : Int32) + (1 : Int32))) - (1 : Int32)))] := r
    obtain ⟨v9_31, e_v9_31⟩ : ∃ z : Int32, z = ((((Own.iushrW p0 ((2 : Int32) * (5 : Int32))) &&& (3 : Int32)) % ((2 : Int32) + (1 : Int32))) - (1 : Int32)) := ⟨_, rfl⟩
    replace r : A0 l Z n0 D h 0 0 68 #[.val (.int p0), .val (.int p1), .val (.int (0 : Int32)), .val (.int (2 : Int32)), .val (.int v4_6), .val (.int v5_11), .val (.int v6_16), .val (.int v7_21), .val (.int v8_26), .unset, .unset, .unset, .unset, .unset] [(.int v9_31)] := by rw [e_v9_31]; exact r
    replace r : A0 l Z n0 D h 0 0 70 #[.val (.int p0), .val (.int p1), .val (.int (0 : Int32)), .val (.int (2 : Int32)), .val (.int v4_6), .val (.int v5_11), .val (.int v6_16), .val (.int v7_21), .val (.int v8_26), .val (.int v9_31), .unset, .unset, .unset, .unset] [] := Own.istore r at_68 rfl
    replace r : A0 l Z n0 D h 0 0 72 #[.val (.int p0), .val (.int p1), .val (.int (0 : Int32)), .val (.int (2 : Int32)), .val (.int v4_6), .val (.int v5_11), .val (.int v6_16), .val (.int v7_21), .val (.int v8_26), .val (.int v9_31), .unset, .unset, .unset, .unset] [(.int (6 : Int32))] := Own.bipush r at_70 rfl
    obtain ⟨h32, ⟨E32, V_b32⟩, r⟩ := Own.newArr r at_72 (hw _ (List.mem_of_getElem? (i := 4) rfl)) (by decide) (cap := 6) (by decide) (by decide) (by decide) (by decide)
    obtain ⟨b32, g32⟩ : ∃ z, z = h.size := ⟨_, rfl⟩
    rw [← g32] at V_b32 r
    have ge_b32 : n0 ≤ b32 := Nat.le_trans Zs (Nat.le_of_eq g32.symm)
    replace Zs := Nat.le_trans Zs E32.1
    replace r : A0 l Z n0 D h32 1 6 74 #[.val (.int p0), .val (.int p1), .val (.int (0 : Int32)), .val (.int (2 : Int32)), .val (.int v4_6), .val (.int v5_11), .val (.int v6_16), .val (.int v7_21), .val (.int v8_26), .val (.int v9_31), .unset, .unset, .unset, .unset] [(.ref b32)] := r
    replace V_b32 : Own.VA Z h32 b32 .int [(.int (0 : Int32)), (.int (0 : Int32)), (.int (0 : Int32)), (.int (0 : Int32)), (.int (0 : Int32)), (.int (0 : Int32))] := V_b32
    replace r : A0 l Z n0 D h32 1 6 75 #[.val (.int p0), .val (.int p1), .val (.int (0 : Int32)), .val (.int (2 : Int32)), .val (.int v4_6), .val (.int v5_11), .val (.int v6_16), .val (.int v7_21), .val (.int v8_26), .val (.int v9_31), .unset, .unset, .unset, .unset] [(.ref b32), (.ref b32)] := Own.dup r at_74 rfl
    replace r : A0 l Z n0 D h32 1 6 76 #[.val (.int p0), .val (.int p1), .val (.int (0 : Int32)), .val (.int (2 : Int32)), .val (.int v4_6), .val (.int v5_11), .val (.int v6_16), .val (.int v7_21), .val (.int v8_26), .val (.int v9_31), .unset, .unset, .unset, .unset] [(.int (0 : Int32)), (.ref b32), (.ref b32)] := Own.iconst r at_75 rfl
    replace r : A0 l Z n0 D h32 1 6 78 #[.val (.int p0), .val (.int p1), .val (.int (0 : Int32)), .val (.int (2 : Int32)), .val (.int v4_6), .val (.int v5_11), .val (.int v6_16), .val (.int v7_21), .val (.int v8_26), .val (.int v9_31), .unset, .unset, .unset, .unset] [(.int v4_6), (.int (0 : Int32)), (.ref b32), (.ref b32)] := Own.iload r at_76 rfl
    obtain ⟨h34, ⟨W33, V_b32⟩, r⟩ := Own.iastore r at_78 V_b32 (by decide) (Nat.le_of_ble_eq_true rfl) ge_b32
    replace r : A0 l Z n0 D h34 1 6 79 #[.val (.int p0), .val (.int p1), .val (.int (0 : Int32)), .val (.int (2 : Int32)), .val (.int v4_6), .val (.int v5_11), .val (.int v6_16), .val (.int v7_21), .val (.int v8_26), .val (.int v9_31), .unset, .unset, .unset, .unset] [(.ref b32)] := r
    replace Zs := Nat.le_trans Zs (Nat.le_of_eq W33.size.symm)
    replace V_b32 : Own.VA Z h34 b32 .int [(.int v4_6), (.int (0 : Int32)), (.int (0 : Int32)), (.int (0 : Int32)), (.int (0 : Int32)), (.int (0 : Int32))] := V_b32
    replace r : A0 l Z n0 D h34 1 6 80 #[.val (.int p0), .val (.int p1), .val (.int (0 : Int32)), .val (.int (2 : Int32)), .val (.int v4_6), .val (.int v5_11), .val (.int v6_16), .val (.int v7_21), .val (.int v8_26), .val (.int v9_31), .unset, .unset, .unset, .unset] [(.ref b32), (.ref b32)] := Own.dup r at_79 rfl
    replace r : A0 l Z n0 D h34 1 6 81 #[.val (.int p0), .val (.int p1), .val (.int (0 : Int32)), .val (.int (2 : Int32)), .val (.int v4_6), .val (.int v5_11), .val (.int v6_16), .val (.int v7_21), .val (.int v8_26), .val (.int v9_31), .unset, .unset, .unset, .unset] [(.int (1 : Int32)), (.ref b32), (.ref b32)] := Own.iconst r at_80 rfl
    replace r : A0 l Z n0 D h34 1 6 83 #[.val (.int p0), .val (.int p1), .val (.int (0 : Int32)), .val (.int (2 : Int32)), .val (.int v4_6), .val (.int v5_11), .val (.int v6_16), .val (.int v7_21), .val (.int v8_26), .val (.int v9_31), .unset, .unset, .unset, .unset] [(.int v5_11), (.int (1 : Int32)), (.ref b32), (.ref b32)] := Own.iload r at_81 rfl
    obtain ⟨h36, ⟨W35, V_b32⟩, r⟩ := Own.iastore r at_83 V_b32 (by decide) (Nat.le_of_ble_eq_true rfl) ge_b32
    replace r : A0 l Z n0 D h36 1 6 84 #[.val (.int p0), .val (.int p1), .val (.int (0 : Int32)), .val (.int (2 : Int32)), .val (.int v4_6), .val (.int v5_11), .val (.int v6_16), .val (.int v7_21), .val (.int v8_26), .val (.int v9_31), .unset, .unset, .unset, .unset] [(.ref b32)] := r
    replace Zs := Nat.le_trans Zs (Nat.le_of_eq W35.size.symm)
    replace V_b32 : Own.VA Z h36 b32 .int [(.int v4_6), (.int v5_11), (.int (0 : Int32)), (.int (0 : Int32)), (.int (0 : Int32)), (.int (0 : Int32))] := V_b32
    replace r : A0 l Z n0 D h36 1 6 85 #[.val (.int p0), .val (.int p1), .val (.int (0 : Int32)), .val (.int (2 : Int32)), .val (.int v4_6), .val (.int v5_11), .val (.int v6_16), .val (.int v7_21), .val (.int v8_26), .val (.int v9_31), .unset, .unset, .unset, .unset] [(.ref b32), (.ref b32)] := Own.dup r at_84 rfl
    replace r : A0 l Z n0 D h36 1 6 86 #[.val (.int p0), .val (.int p1), .val (.int (0 : Int32)), .val (.int (2 : Int32)), .val (.int v4_6), .val (.int v5_11), .val (.int v6_16), .val (.int v7_21), .val (.int v8_26), .val (.int v9_31), .unset, .unset, .unset, .unset] [(.int (2 : Int32)), (.ref b32), (.ref b32)] := Own.iconst r at_85 rfl
    replace r : A0 l Z n0 D h36 1 6 88 #[.val (.int p0), .val (.int p1), .val (.int (0 : Int32)), .val (.int (2 : Int32)), .val (.int v4_6), .val (.int v5_11), .val (.int v6_16), .val (.int v7_21), .val (.int v8_26), .val (.int v9_31), .unset, .unset, .unset, .unset] [(.int v6_16), (.int (2 : Int32)), (.ref b32), (.ref b32)] := Own.iload r at_86 rfl
    obtain ⟨h38, ⟨W37, V_b32⟩, r⟩ := Own.iastore r at_88 V_b32 (by decide) (Nat.le_of_ble_eq_true rfl) ge_b32
    replace r : A0 l Z n0 D h38 1 6 89 #[.val (.int p0), .val (.int p1), .val (.int (0 : Int32)), .val (.int (2 : Int32)), .val (.int v4_6), .val (.int v5_11), .val (.int v6_16), .val (.int v7_21), .val (.int v8_26), .val (.int v9_31), .unset, .unset, .unset, .unset] [(.ref b32)] := r
    replace Zs := Nat.le_trans Zs (Nat.le_of_eq W37.size.symm)
    replace V_b32 : Own.VA Z h38 b32 .int [(.int v4_6), (.int v5_11), (.int v6_16), (.int (0 : Int32)), (.int (0 : Int32)), (.int (0 : Int32))] := V_b32
    replace r : A0 l Z n0 D h38 1 6 90 #[.val (.int p0), .val (.int p1), .val (.int (0 : Int32)), .val (.int (2 : Int32)), .val (.int v4_6), .val (.int v5_11), .val (.int v6_16), .val (.int v7_21), .val (.int v8_26), .val (.int v9_31), .unset, .unset, .unset, .unset] [(.ref b32), (.ref b32)] := Own.dup r at_89 rfl
    replace r : A0 l Z n0 D h38 1 6 91 #[.val (.int p0), .val (.int p1), .val (.int (0 : Int32)), .val (.int (2 : Int32)), .val (.int v4_6), .val (.int v5_11), .val (.int v6_16), .val (.int v7_21), .val (.int v8_26), .val (.int v9_31), .unset, .unset, .unset, .unset] [(.int (3 : Int32)), (.ref b32), (.ref b32)] := Own.iconst r at_90 rfl
    replace r : A0 l Z n0 D h38 1 6 93 #[.val (.int p0), .val (.int p1), .val (.int (0 : Int32)), .val (.int (2 : Int32)), .val (.int v4_6), .val (.int v5_11), .val (.int v6_16), .val (.int v7_21), .val (.int v8_26), .val (.int v9_31), .unset, .unset, .unset, .unset] [(.int v7_21), (.int (3 : Int32)), (.ref b32), (.ref b32)] := Own.iload r at_91 rfl
    obtain ⟨h40, ⟨W39, V_b32⟩, r⟩ := Own.iastore r at_93 V_b32 (by decide) (Nat.le_of_ble_eq_true rfl) ge_b32
    replace r : A0 l Z n0 D h40 1 6 94 #[.val (.int p0), .val (.int p1), .val (.int (0 : Int32)), .val (.int (2 : Int32)), .val (.int v4_6), .val (.int v5_11), .val (.int v6_16), .val (.int v7_21), .val (.int v8_26), .val (.int v9_31), .unset, .unset, .unset, .unset] [(.ref b32)] := r
    replace Zs := Nat.le_trans Zs (Nat.le_of_eq W39.size.symm)
    replace V_b32 : Own.VA Z h40 b32 .int [(.int v4_6), (.int v5_11), (.int v6_16), (.int v7_21), (.int (0 : Int32)), (.int (0 : Int32))] := V_b32
    replace r : A0 l Z n0 D h40 1 6 95 #[.val (.int p0), .val (.int p1), .val (.int (0 : Int32)), .val (.int (2 : Int32)), .val (.int v4_6), .val (.int v5_11), .val (.int v6_16), .val (.int v7_21), .val (.int v8_26), .val (.int v9_31), .unset, .unset, .unset, .unset] [(.ref b32), (.ref b32)] := Own.dup r at_94 rfl
    replace r : A0 l Z n0 D h40 1 6 96 #[.val (.int p0), .val (.int p1), .val (.int (0 : Int32)), .val (.int (2 : Int32)), .val (.int v4_6), .val (.int v5_11), .val (.int v6_16), .val (.int v7_21), .val (.int v8_26), .val (.int v9_31), .unset, .unset, .unset, .unset] [(.int (4 : Int32)), (.ref b32), (.ref b32)] := Own.iconst r at_95 rfl
    replace r : A0 l Z n0 D h40 1 6 98 #[.val (.int p0), .val (.int p1), .val (.int (0 : Int32)), .val (.int (2 : Int32)), .val (.int v4_6), .val (.int v5_11), .val (.int v6_16), .val (.int v7_21), .val (.int v8_26), .val (.int v9_31), .unset, .unset, .unset, .unset] [(.int v8_26), (.int (4 : Int32)), (.ref b32), (.ref b32)] := Own.iload r at_96 rfl
    obtain ⟨h42, ⟨W41, V_b32⟩, r⟩ := Own.iastore r at_98 V_b32 (by decide) (Nat.le_of_ble_eq_true rfl) ge_b32
    replace r : A0 l Z n0 D h42 1 6 99 #[.val (.int p0), .val (.int p1), .val (.int (0 : Int32)), .val (.int (2 : Int32)), .val (.int v4_6), .val (.int v5_11), .val (.int v6_16), .val (.int v7_21), .val (.int v8_26), .val (.int v9_31), .unset, .unset, .unset, .unset] [(.ref b32)] := r
    replace Zs := Nat.le_trans Zs (Nat.le_of_eq W41.size.symm)
    replace V_b32 : Own.VA Z h42 b32 .int [(.int v4_6), (.int v5_11), (.int v6_16), (.int v7_21), (.int v8_26), (.int (0 : Int32))] := V_b32
    replace r : A0 l Z n0 D h42 1 6 100 #[.val (.int p0), .val (.int p1), .val (.int (0 : Int32)), .val (.int (2 : Int32)), .val (.int v4_6), .val (.int v5_11), .val (.int v6_16), .val (.int v7_21), .val (.int v8_26), .val (.int v9_31), .unset, .unset, .unset, .unset] [(.ref b32), (.ref b32)] := Own.dup r at_99 rfl
    replace r : A0 l Z n0 D h42 1 6 101 #[.val (.int p0), .val (.int p1), .val (.int (0 : Int32)), .val (.int (2 : Int32)), .val (.int v4_6), .val (.int v5_11), .val (.int v6_16), .val (.int v7_21), .val (.int v8_26), .val (.int v9_31), .unset, .unset, .unset, .unset] [(.int (5 : Int32)), (.ref b32), (.ref b32)] := Own.iconst r at_100 rfl
    replace r : A0 l Z n0 D h42 1 6 103 #[.val (.int p0), .val (.int p1), .val (.int (0 : Int32)), .val (.int (2 : Int32)), .val (.int v4_6), .val (.int v5_11), .val (.int v6_16), .val (.int v7_21), .val (.int v8_26), .val (.int v9_31), .unset, .unset, .unset, .unset] [(.int v9_31), (.int (5 : Int32)), (.ref b32), (.ref b32)] := Own.iload r at_101 rfl
    obtain ⟨h44, ⟨W43, V_b32⟩, r⟩ := Own.iastore r at_103 V_b32 (by decide) (Nat.le_of_ble_eq_true rfl) ge_b32
    replace r : A0 l Z n0 D h44 1 6 104 #[.val (.int p0), .val (.int p1), .val (.int (0 : Int32)), .val (.int (2 : Int32)), .val (.int v4_6), .val (.int v5_11), .val (.int v6_16), .val (.int v7_21), .val (.int v8_26), .val (.int v9_31), .unset, .unset, .unset, .unset] [(.ref b32)] := r
    replace Zs := Nat.le_trans Zs (Nat.le_of_eq W43.size.symm)
    replace V_b32 : Own.VA Z h44 b32 .int [(.int v4_6), (.int v5_11), (.int v6_16), (.int v7_21), (.int v8_26), (.int v9_31)] := V_b32
    replace r : A0 l Z n0 D h44 1 6 106 #[.val (.int p0), .val (.int p1), .val (.int (0 : Int32)), .val (.int (2 : Int32)), .val (.int v4_6), .val (.int v5_11), .val (.int v6_16), .val (.int v7_21), .val (.int v8_26), .val (.int v9_31), .val (.ref b32), .unset, .unset, .unset] [] := Own.astore r at_104 rfl rfl
    replace r : A0 l Z n0 D h44 1 6 107 #[.val (.int p0), .val (.int p1), .val (.int (0 : Int32)), .val (.int (2 : Int32)), .val (.int v4_6), .val (.int v5_11), .val (.int v6_16), .val (.int v7_21), .val (.int v8_26), .val (.int v9_31), .val (.ref b32), .unset, .unset, .unset] [(.int (2 : Int32))] := Own.iloadN r at_106 rfl
    obtain ⟨h45, ⟨E45, V_b45⟩, r⟩ := Own.newArr r at_107 (hw _ (List.mem_of_getElem? (i := 5) rfl)) (by decide) (cap := 2) (by decide) (by decide) (by decide) (by decide)
    obtain ⟨b45, g45⟩ : ∃ z, z = h44.size := ⟨_, rfl⟩
    rw [← g45] at V_b45 r
    have ge_b45 : n0 ≤ b45 := Nat.le_trans Zs (Nat.le_of_eq g45.symm)
    have ne_b32_b45 : b32 ≠ b45 := Own.ne_lt V_b32.lt g45
    replace V_b32 := V_b32.ext E45
    replace Zs := Nat.le_trans Zs E45.1
    replace r : A0 l Z n0 D h45 2 8 109 #[.val (.int p0), .val (.int p1), .val (.int (0 : Int32)), .val (.int (2 : Int32)), .val (.int v4_6), .val (.int v5_11), .val (.int v6_16), .val (.int v7_21), .val (.int v8_26), .val (.int v9_31), .val (.ref b32), .unset, .unset, .unset] [(.ref b45)] := r
    replace V_b45 : Own.VA Z h45 b45 .boolean [(.int (0 : Int32)), (.int (0 : Int32))] := V_b45
    replace r : A0 l Z n0 D h45 2 8 111 #[.val (.int p0), .val (.int p1), .val (.int (0 : Int32)), .val (.int (2 : Int32)), .val (.int v4_6), .val (.int v5_11), .val (.int v6_16), .val (.int v7_21), .val (.int v8_26), .val (.int v9_31), .val (.ref b32), .val (.ref b45), .unset, .unset] [] := Own.astore r at_109 rfl rfl
    replace r : A0 l Z n0 D h45 2 8 113 #[.val (.int p0), .val (.int p1), .val (.int (0 : Int32)), .val (.int (2 : Int32)), .val (.int v4_6), .val (.int v5_11), .val (.int v6_16), .val (.int v7_21), .val (.int v8_26), .val (.int v9_31), .val (.ref b32), .val (.ref b45), .unset, .unset] [(.ref b45)] := Own.aload r at_111 rfl rfl
    replace r : A0 l Z n0 D h45 2 8 114 #[.val (.int p0), .val (.int p1), .val (.int (0 : Int32)), .val (.int (2 : Int32)), .val (.int v4_6), .val (.int v5_11), .val (.int v6_16), .val (.int v7_21), .val (.int v8_26), .val (.int v9_31), .val (.ref b32), .val (.ref b45), .unset, .unset] [(.int (0 : Int32)), (.ref b45)] := Own.iconst r at_113 rfl
    replace r : A0 l Z n0 D h45 2 8 115 #[.val (.int p0), .val (.int p1), .val (.int (0 : Int32)), .val (.int (2 : Int32)), .val (.int v4_6), .val (.int v5_11), .val (.int v6_16), .val (.int v7_21), .val (.int v8_26), .val (.int v9_31), .val (.ref b32), .val (.ref b45), .unset, .unset] [(.int p1), (.int (0 : Int32)), (.ref b45)] := Own.iloadN r at_114 rfl
    replace r : A0 l Z n0 D h45 2 8 116 #[.val (.int p0), .val (.int p1), .val (.int (0 : Int32)), .val (.int (2 : Int32)), .val (.int v4_6), .val (.int v5_11), .val (.int v6_16), .val (.int v7_21), .val (.int v8_26), .val (.int v9_31), .val (.ref b32), .val (.ref b45), .unset, .unset] [(.int (2 : Int32)), (.int p1), (.int (0 : Int32)), (.ref b45)] := Own.iconst r at_115 rfl
    replace r : A0 l Z n0 D h45 2 8 117 #[.val (.int p0), .val (.int p1), .val (.int (0 : Int32)), .val (.int (2 : Int32)), .val (.int v4_6), .val (.int v5_11), .val (.int v6_16), .val (.int v7_21), .val (.int v8_26), .val (.int v9_31), .val (.ref b32), .val (.ref b45), .unset, .unset] [(.int (p1 &&& (2 : Int32))), (.int (0 : Int32)), (.ref b45)] := Own.iand r at_116
    obtain ⟨m46, e_m46, r⟩ : ∃ (m46 : Int32), m46 = (if (p1 &&& (2 : Int32)) = (0 : Int32) then (0 : Int32) else (1 : Int32)) ∧ A0 l Z n0 D h45 2 8 125 #[.val (.int p0), .val (.int p1), .val (.int (0 : Int32)), .val (.int (2 : Int32)), .val (.int v4_6), .val (.int v5_11), .val (.int v6_16), .val (.int v7_21), .val (.int v8_26), .val (.int v9_31), .val (.ref b32), .val (.ref b45), .unset, .unset] [(.int m46), (.int (0 : Int32)), (.ref b45)] := by
      by_cases br47 : (p1 &&& (2 : Int32)) = (0 : Int32)
      · skip
        replace r : A0 l Z n0 D h45 2 8 124 #[.val (.int p0), .val (.int p1), .val (.int (0 : Int32)), .val (.int (2 : Int32)), .val (.int v4_6), .val (.int v5_11), .val (.int v6_16), .val (.int v7_21), .val (.int v8_26), .val (.int v9_31), .val (.ref b32), .val (.ref b45), .unset, .unset] [(.int (0 : Int32)), (.ref b45)] := Own.ifYes r at_117 ((if0 _ _).trans (teq br47).1) (by decide) (by decide)
        replace r : A0 l Z n0 D h45 2 8 125 #[.val (.int p0), .val (.int p1), .val (.int (0 : Int32)), .val (.int (2 : Int32)), .val (.int v4_6), .val (.int v5_11), .val (.int v6_16), .val (.int v7_21), .val (.int v8_26), .val (.int v9_31), .val (.ref b32), .val (.ref b45), .unset, .unset] [(.int (0 : Int32)), (.int (0 : Int32)), (.ref b45)] := Own.iconst r at_124 rfl
        exact ⟨_, by rw [if_pos br47], r⟩
      · skip
        replace r : A0 l Z n0 D h45 2 8 120 #[.val (.int p0), .val (.int p1), .val (.int (0 : Int32)), .val (.int (2 : Int32)), .val (.int v4_6), .val (.int v5_11), .val (.int v6_16), .val (.int v7_21), .val (.int v8_26), .val (.int v9_31), .val (.ref b32), .val (.ref b45), .unset, .unset] [(.int (0 : Int32)), (.ref b45)] := Own.ifNo r at_117 ((if0 _ _).trans (feq br47).1)
        replace r : A0 l Z n0 D h45 2 8 121 #[.val (.int p0), .val (.int p1), .val (.int (0 : Int32)), .val (.int (2 : Int32)), .val (.int v4_6), .val (.int v5_11), .val (.int v6_16), .val (.int v7_21), .val (.int v8_26), .val (.int v9_31), .val (.ref b32), .val (.ref b45), .unset, .unset] [(.int (1 : Int32)), (.int (0 : Int32)), (.ref b45)] := Own.iconst r at_120 rfl
        replace r : A0 l Z n0 D h45 2 8 125 #[.val (.int p0), .val (.int p1), .val (.int (0 : Int32)), .val (.int (2 : Int32)), .val (.int v4_6), .val (.int v5_11), .val (.int v6_16), .val (.int v7_21), .val (.int v8_26), .val (.int v9_31), .val (.ref b32), .val (.ref b45), .unset, .unset] [(.int (1 : Int32)), (.int (0 : Int32)), (.ref b45)] := Own.goto r at_121 (by decide) (by decide)
        exact ⟨_, by rw [if_neg br47], r⟩
    obtain ⟨h49, ⟨W48, V_b45⟩, r⟩ := Own.zastore r at_125 V_b45 (by decide) (Nat.le_of_ble_eq_true rfl) ge_b45
    replace r : A0 l Z n0 D h49 2 8 126 #[.val (.int p0), .val (.int p1), .val (.int (0 : Int32)), .val (.int (2 : Int32)), .val (.int v4_6), .val (.int v5_11), .val (.int v6_16), .val (.int v7_21), .val (.int v8_26), .val (.int v9_31), .val (.ref b32), .val (.ref b45), .unset, .unset] [] := r
    replace V_b32 := V_b32.other W48 ne_b32_b45
    replace Zs := Nat.le_trans Zs (Nat.le_of_eq W48.size.symm)
    replace V_b45 : Own.VA Z h49 b45 .boolean [(.int (nar .boolean m46)), (.int (0 : Int32))] := V_b45
    replace r : A0 l Z n0 D h49 2 8 128 #[.val (.int p0), .val (.int p1), .val (.int (0 : Int32)), .val (.int (2 : Int32)), .val (.int v4_6), .val (.int v5_11), .val (.int v6_16), .val (.int v7_21), .val (.int v8_26), .val (.int v9_31), .val (.ref b32), .val (.ref b45), .unset, .unset] [(.ref b45)] := Own.aload r at_126 rfl rfl
    replace r : A0 l Z n0 D h49 2 8 129 #[.val (.int p0), .val (.int p1), .val (.int (0 : Int32)), .val (.int (2 : Int32)), .val (.int v4_6), .val (.int v5_11), .val (.int v6_16), .val (.int v7_21), .val (.int v8_26), .val (.int v9_31), .val (.ref b32), .val (.ref b45), .unset, .unset] [(.int (1 : Int32)), (.ref b45)] := Own.iconst r at_128 rfl
    replace r : A0 l Z n0 D h49 2 8 130 #[.val (.int p0), .val (.int p1), .val (.int (0 : Int32)), .val (.int (2 : Int32)), .val (.int v4_6), .val (.int v5_11), .val (.int v6_16), .val (.int v7_21), .val (.int v8_26), .val (.int v9_31), .val (.ref b32), .val (.ref b45), .unset, .unset] [(.int p1), (.int (1 : Int32)), (.ref b45)] := Own.iloadN r at_129 rfl
    replace r : A0 l Z n0 D h49 2 8 131 #[.val (.int p0), .val (.int p1), .val (.int (0 : Int32)), .val (.int (2 : Int32)), .val (.int v4_6), .val (.int v5_11), .val (.int v6_16), .val (.int v7_21), .val (.int v8_26), .val (.int v9_31), .val (.ref b32), .val (.ref b45), .unset, .unset] [(.int (4 : Int32)), (.int p1), (.int (1 : Int32)), (.ref b45)] := Own.iconst r at_130 rfl
    replace r : A0 l Z n0 D h49 2 8 132 #[.val (.int p0), .val (.int p1), .val (.int (0 : Int32)), .val (.int (2 : Int32)), .val (.int v4_6), .val (.int v5_11), .val (.int v6_16), .val (.int v7_21), .val (.int v8_26), .val (.int v9_31), .val (.ref b32), .val (.ref b45), .unset, .unset] [(.int (p1 &&& (4 : Int32))), (.int (1 : Int32)), (.ref b45)] := Own.iand r at_131
    obtain ⟨m50, e_m50, r⟩ : ∃ (m50 : Int32), m50 = (if (p1 &&& (4 : Int32)) = (0 : Int32) then (0 : Int32) else (1 : Int32)) ∧ A0 l Z n0 D h49 2 8 140 #[.val (.int p0), .val (.int p1), .val (.int (0 : Int32)), .val (.int (2 : Int32)), .val (.int v4_6), .val (.int v5_11), .val (.int v6_16), .val (.int v7_21), .val (.int v8_26), .val (.int v9_31), .val (.ref b32), .val (.ref b45), .unset, .unset] [(.int m50), (.int (1 : Int32)), (.ref b45)] := by
      by_cases br51 : (p1 &&& (4 : Int32)) = (0 : Int32)
      · skip
        replace r : A0 l Z n0 D h49 2 8 139 #[.val (.int p0), .val (.int p1), .val (.int (0 : Int32)), .val (.int (2 : Int32)), .val (.int v4_6), .val (.int v5_11), .val (.int v6_16), .val (.int v7_21), .val (.int v8_26), .val (.int v9_31), .val (.ref b32), .val (.ref b45), .unset, .unset] [(.int (1 : Int32)), (.ref b45)] := Own.ifYes r at_132 ((if0 _ _).trans (teq br51).1) (by decide) (by decide)
        replace r : A0 l Z n0 D h49 2 8 140 #[.val (.int p0), .val (.int p1), .val (.int (0 : Int32)), .val (.int (2 : Int32)), .val (.int v4_6), .val (.int v5_11), .val (.int v6_16), .val (.int v7_21), .val (.int v8_26), .val (.int v9_31), .val (.ref b32), .val (.ref b45), .unset, .unset] [(.int (0 : Int32)), (.int (1 : Int32)), (.ref b45)] := Own.iconst r at_139 rfl
        exact ⟨_, by rw [if_pos br51], r⟩
      · skip
        replace r : A0 l Z n0 D h49 2 8 135 #[.val (.int p0), .val (.int p1), .val (.int (0 : Int32)), .val (.int (2 : Int32)), .val (.int v4_6), .val (.int v5_11), .val (.int v6_16), .val (.int v7_21), .val (.int v8_26), .val (.int v9_31), .val (.ref b32), .val (.ref b45), .unset, .unset] [(.int (1 : Int32)), (.ref b45)] := Own.ifNo r at_132 ((if0 _ _).trans (feq br51).1)
        replace r : A0 l Z n0 D h49 2 8 136 #[.val (.int p0), .val (.int p1), .val (.int (0 : Int32)), .val (.int (2 : Int32)), .val (.int v4_6), .val (.int v5_11), .val (.int v6_16), .val (.int v7_21), .val (.int v8_26), .val (.int v9_31), .val (.ref b32), .val (.ref b45), .unset, .unset] [(.int (1 : Int32)), (.int (1 : Int32)), (.ref b45)] := Own.iconst r at_135 rfl
        replace r : A0 l Z n0 D h49 2 8 140 #[.val (.int p0), .val (.int p1), .val (.int (0 : Int32)), .val (.int (2 : Int32)), .val (.int v4_6), .val (.int v5_11), .val (.int v6_16), .val (.int v7_21), .val (.int v8_26), .val (.int v9_31), .val (.ref b32), .val (.ref b45), .unset, .unset] [(.int (1 : Int32)), (.int (1 : Int32)), (.ref b45)] := Own.goto r at_136 (by decide) (by decide)
        exact ⟨_, by rw [if_neg br51], r⟩
    obtain ⟨h53, ⟨W52, V_b45⟩, r⟩ := Own.zastore r at_140 V_b45 (by decide) (Nat.le_of_ble_eq_true rfl) ge_b45
    replace r : A0 l Z n0 D h53 2 8 141 #[.val (.int p0), .val (.int p1), .val (.int (0 : Int32)), .val (.int (2 : Int32)), .val (.int v4_6), .val (.int v5_11), .val (.int v6_16), .val (.int v7_21), .val (.int v8_26), .val (.int v9_31), .val (.ref b32), .val (.ref b45), .unset, .unset] [] := r
    replace V_b32 := V_b32.other W52 ne_b32_b45
    replace Zs := Nat.le_trans Zs (Nat.le_of_eq W52.size.symm)
    replace V_b45 : Own.VA Z h53 b45 .boolean [(.int (nar .boolean m46)), (.int (nar .boolean m50))] := V_b45
    replace r : A0 l Z n0 D h53 2 8 142 #[.val (.int p0), .val (.int p1), .val (.int (0 : Int32)), .val (.int (2 : Int32)), .val (.int v4_6), .val (.int v5_11), .val (.int v6_16), .val (.int v7_21), .val (.int v8_26), .val (.int v9_31), .val (.ref b32), .val (.ref b45), .unset, .unset] [(.int (0 : Int32))] := Own.iloadN r at_141 rfl
    replace r : A0 l Z n0 D h53 2 8 161 #[.val (.int p0), .val (.int p1), .val (.int (0 : Int32)), .val (.int (2 : Int32)), .val (.int v4_6), .val (.int v5_11), .val (.int v6_16), .val (.int v7_21), .val (.int v8_26), .val (.int v9_31), .val (.ref b32), .val (.ref b45), .unset, .unset] [] := Own.ifYes r at_142 ((if0 _ _).trans (teq (by decide : (0 : Int32) = (0 : Int32))).1) (by decide) (by decide)
    replace r : A0 l Z n0 D h53 2 8 162 #[.val (.int p0), .val (.int p1), .val (.int (0 : Int32)), .val (.int (2 : Int32)), .val (.int v4_6), .val (.int v5_11), .val (.int v6_16), .val (.int v7_21), .val (.int v8_26), .val (.int v9_31), .val (.ref b32), .val (.ref b45), .unset, .unset] [(.int (0 : Int32))] := Own.iloadN r at_161 rfl
    replace r : A0 l Z n0 D h53 2 8 180 #[.val (.int p0), .val (.int p1), .val (.int (0 : Int32)), .val (.int (2 : Int32)), .val (.int v4_6), .val (.int v5_11), .val (.int v6_16), .val (.int v7_21), .val (.int v8_26), .val (.int v9_31), .val (.ref b32), .val (.ref b45), .unset, .unset] [] := Own.ifYes r at_162 ((if0 _ _).trans (teq (by decide : (0 : Int32) = (0 : Int32))).1) (by decide) (by decide)
    replace r : A0 l Z n0 D h53 2 8 181 #[.val (.int p0), .val (.int p1), .val (.int (0 : Int32)), .val (.int (2 : Int32)), .val (.int v4_6), .val (.int v5_11), .val (.int v6_16), .val (.int v7_21), .val (.int v8_26), .val (.int v9_31), .val (.ref b32), .val (.ref b45), .unset, .unset] [(.int (3 : Int32))] := Own.iconst r at_180 rfl
    obtain ⟨h54, ⟨E54, V_b54⟩, r⟩ := Own.newArr r at_181 (hw _ (List.mem_of_getElem? (i := 4) rfl)) (by decide) (cap := 3) (by decide) (by decide) (by decide) (by decide)
    obtain ⟨b54, g54⟩ : ∃ z, z = h53.size := ⟨_, rfl⟩
    rw [← g54] at V_b54 r
    have ge_b54 : n0 ≤ b54 := Nat.le_trans Zs (Nat.le_of_eq g54.symm)
    have ne_b32_b54 : b32 ≠ b54 := Own.ne_lt V_b32.lt g54
    have ne_b45_b54 : b45 ≠ b54 := Own.ne_lt V_b45.lt g54
    replace V_b32 := V_b32.ext E54
    replace V_b45 := V_b45.ext E54
    replace Zs := Nat.le_trans Zs E54.1
    replace r : A0 l Z n0 D h54 3 11 183 #[.val (.int p0), .val (.int p1), .val (.int (0 : Int32)), .val (.int (2 : Int32)), .val (.int v4_6), .val (.int v5_11), .val (.int v6_16), .val (.int v7_21), .val (.int v8_26), .val (.int v9_31), .val (.ref b32), .val (.ref b45), .unset, .unset] [(.ref b54)] := r
    replace V_b54 : Own.VA Z h54 b54 .int [(.int (0 : Int32)), (.int (0 : Int32)), (.int (0 : Int32))] := V_b54
    replace r : A0 l Z n0 D h54 3 11 184 #[.val (.int p0), .val (.int p1), .val (.int (0 : Int32)), .val (.int (2 : Int32)), .val (.int v4_6), .val (.int v5_11), .val (.int v6_16), .val (.int v7_21), .val (.int v8_26), .val (.int v9_31), .val (.ref b32), .val (.ref b45), .unset, .unset] [(.ref b54), (.ref b54)] := Own.dup r at_183 rfl
    replace r : A0 l Z n0 D h54 3 11 185 #[.val (.int p0), .val (.int p1), .val (.int (0 : Int32)), .val (.int (2 : Int32)), .val (.int v4_6), .val (.int v5_11), .val (.int v6_16), .val (.int v7_21), .val (.int v8_26), .val (.int v9_31), .val (.ref b32), .val (.ref b45), .unset, .unset] [(.int (0 : Int32)), (.ref b54), (.ref b54)] := Own.iconst r at_184 rfl
    replace r : A0 l Z n0 D h54 3 11 186 #[.val (.int p0), .val (.int p1), .val (.int (0 : Int32)), .val (.int (2 : Int32)), .val (.int v4_6), .val (.int v5_11), .val (.int v6_16), .val (.int v7_21), .val (.int v8_26), .val (.int v9_31), .val (.ref b32), .val (.ref b45), .unset, .unset] [(.int (0 : Int32)), (.int (0 : Int32)), (.ref b54), (.ref b54)] := Own.iconst r at_185 rfl
    obtain ⟨h56, ⟨W55, V_b54⟩, r⟩ := Own.iastore r at_186 V_b54 (by decide) (Nat.le_of_ble_eq_true rfl) ge_b54
    replace r : A0 l Z n0 D h56 3 11 187 #[.val (.int p0), .val (.int p1), .val (.int (0 : Int32)), .val (.int (2 : Int32)), .val (.int v4_6), .val (.int v5_11), .val (.int v6_16), .val (.int v7_21), .val (.int v8_26), .val (.int v9_31), .val (.ref b32), .val (.ref b45), .unset, .unset] [(.ref b54)] := r
    replace V_b32 := V_b32.other W55 ne_b32_b54
    replace V_b45 := V_b45.other W55 ne_b45_b54
    replace Zs := Nat.le_trans Zs (Nat.le_of_eq W55.size.symm)
    replace V_b54 : Own.VA Z h56 b54 .int [(.int (0 : Int32)), (.int (0 : Int32)), (.int (0 : Int32))] := V_b54
    replace r : A0 l Z n0 D h56 3 11 188 #[.val (.int p0), .val (.int p1), .val (.int (0 : Int32)), .val (.int (2 : Int32)), .val (.int v4_6), .val (.int v5_11), .val (.int v6_16), .val (.int v7_21), .val (.int v8_26), .val (.int v9_31), .val (.ref b32), .val (.ref b45), .unset, .unset] [(.ref b54), (.ref b54)] := Own.dup r at_187 rfl
    replace r : A0 l Z n0 D h56 3 11 189 #[.val (.int p0), .val (.int p1), .val (.int (0 : Int32)), .val (.int (2 : Int32)), .val (.int v4_6), .val (.int v5_11), .val (.int v6_16), .val (.int v7_21), .val (.int v8_26), .val (.int v9_31), .val (.ref b32), .val (.ref b45), .unset, .unset] [(.int (1 : Int32)), (.ref b54), (.ref b54)] := Own.iconst r at_188 rfl
    replace r : A0 l Z n0 D h56 3 11 191 #[.val (.int p0), .val (.int p1), .val (.int (0 : Int32)), .val (.int (2 : Int32)), .val (.int v4_6), .val (.int v5_11), .val (.int v6_16), .val (.int v7_21), .val (.int v8_26), .val (.int v9_31), .val (.ref b32), .val (.ref b45), .unset, .unset] [(.int (65 : Int32)), (.int (1 : Int32)), (.ref b54), (.ref b54)] := Own.bipush r at_189 rfl
    obtain ⟨h58, ⟨W57, V_b54⟩, r⟩ := Own.iastore r at_191 V_b54 (by decide) (Nat.le_of_ble_eq_true rfl) ge_b54
    replace r : A0 l Z n0 D h58 3 11 192 #[.val (.int p0), .val (.int p1), .val (.int (0 : Int32)), .val (.int (2 : Int32)), .val (.int v4_6), .val (.int v5_11), .val (.int v6_16), .val (.int v7_21), .val (.int v8_26), .val (.int v9_31), .val (.ref b32), .val (.ref b45), .unset, .unset] [(.ref b54)] := r
    replace V_b32 := V_b32.other W57 ne_b32_b54
    replace V_b45 := V_b45.other W57 ne_b45_b54
    replace Zs := Nat.le_trans Zs (Nat.le_of_eq W57.size.symm)
    replace V_b54 : Own.VA Z h58 b54 .int [(.int (0 : Int32)), (.int (65 : Int32)), (.int (0 : Int32))] := V_b54
    replace r : A0 l Z n0 D h58 3 11 193 #[.val (.int p0), .val (.int p1), .val (.int (0 : Int32)), .val (.int (2 : Int32)), .val (.int v4_6), .val (.int v5_11), .val (.int v6_16), .val (.int v7_21), .val (.int v8_26), .val (.int v9_31), .val (.ref b32), .val (.ref b45), .unset, .unset] [(.ref b54), (.ref b54)] := Own.dup r at_192 rfl
    replace r : A0 l Z n0 D h58 3 11 194 #[.val (.int p0), .val (.int p1), .val (.int (0 : Int32)), .val (.int (2 : Int32)), .val (.int v4_6), .val (.int v5_11), .val (.int v6_16), .val (.int v7_21), .val (.int v8_26), .val (.int v9_31), .val (.ref b32), .val (.ref b45), .unset, .unset] [(.int (2 : Int32)), (.ref b54), (.ref b54)] := Own.iconst r at_193 rfl
    replace r : A0 l Z n0 D h58 3 11 196 #[.val (.int p0), .val (.int p1), .val (.int (0 : Int32)), .val (.int (2 : Int32)), .val (.int v4_6), .val (.int v5_11), .val (.int v6_16), .val (.int v7_21), .val (.int v8_26), .val (.int v9_31), .val (.ref b32), .val (.ref b45), .unset, .unset] [(.int (97 : Int32)), (.int (2 : Int32)), (.ref b54), (.ref b54)] := Own.bipush r at_194 rfl
    obtain ⟨h60, ⟨W59, V_b54⟩, r⟩ := Own.iastore r at_196 V_b54 (by decide) (Nat.le_of_ble_eq_true rfl) ge_b54
    replace r : A0 l Z n0 D h60 3 11 197 #[.val (.int p0), .val (.int p1), .val (.int (0 : Int32)), .val (.int (2 : Int32)), .val (.int v4_6), .val (.int v5_11), .val (.int v6_16), .val (.int v7_21), .val (.int v8_26), .val (.int v9_31), .val (.ref b32), .val (.ref b45), .unset, .unset] [(.ref b54)] := r
    replace V_b32 := V_b32.other W59 ne_b32_b54
    replace V_b45 := V_b45.other W59 ne_b45_b54
    replace Zs := Nat.le_trans Zs (Nat.le_of_eq W59.size.symm)
    replace V_b54 : Own.VA Z h60 b54 .int [(.int (0 : Int32)), (.int (65 : Int32)), (.int (97 : Int32))] := V_b54
    replace r : A0 l Z n0 D h60 3 11 199 #[.val (.int p0), .val (.int p1), .val (.int (0 : Int32)), .val (.int (2 : Int32)), .val (.int v4_6), .val (.int v5_11), .val (.int v6_16), .val (.int v7_21), .val (.int v8_26), .val (.int v9_31), .val (.ref b32), .val (.ref b45), .val (.ref b54), .unset] [] := Own.astore r at_197 rfl rfl
    obtain ⟨h61, ⟨E61, X_b61, D61⟩, r⟩ := Own.newObj r at_199 (hw _ (List.mem_of_getElem? (i := 6) rfl)) (hw _ (List.mem_of_getElem? (i := 7) rfl)) (hw _ (List.mem_of_getElem? (i := 8) rfl)) (by decide) (by decide)
    obtain ⟨b61, g61⟩ : ∃ z, z = h60.size := ⟨_, rfl⟩
    rw [← g61] at X_b61 D61 r
    have ge_b61 : n0 ≤ b61 := Nat.le_trans Zs (Nat.le_of_eq g61.symm)
    have ne_b32_b61 : b32 ≠ b61 := Own.ne_lt V_b32.lt g61
    have ne_b45_b61 : b45 ≠ b61 := Own.ne_lt V_b45.lt g61
    have ne_b54_b61 : b54 ≠ b61 := Own.ne_lt V_b54.lt g61
    replace V_b32 := V_b32.ext E61
    replace V_b45 := V_b45.ext E61
    replace V_b54 := V_b54.ext E61
    replace Zs := Nat.le_trans Zs E61.1
    replace r : A0 l Z n0 D h61 4 15 202 #[.val (.int p0), .val (.int p1), .val (.int (0 : Int32)), .val (.int (2 : Int32)), .val (.int v4_6), .val (.int v5_11), .val (.int v6_16), .val (.int v7_21), .val (.int v8_26), .val (.int v9_31), .val (.ref b32), .val (.ref b45), .val (.ref b54), .unset] [(.ref b61)] := r
    have F_starts_b61 : Fld Z h61 b61 "com/example/ref_access_rules/refaccessrules/pattern/Dfa" "starts" "[I" .null := D61 (Or.inr (hw _ (List.mem_of_getElem? (i := 16) rfl))) (ty := (.array .int)) (by decide)
    have F_table_b61 : Fld Z h61 b61 "com/example/ref_access_rules/refaccessrules/pattern/Dfa" "table" "[I" .null := D61 (Or.inr (hw _ (List.mem_of_getElem? (i := 18) rfl))) (ty := (.array .int)) (by decide)
    have F_accepting_b61 : Fld Z h61 b61 "com/example/ref_access_rules/refaccessrules/pattern/Dfa" "accepting" "[Z" .null := D61 (Or.inr (hw _ (List.mem_of_getElem? (i := 20) rfl))) (ty := (.array .boolean)) (by decide)
    have F_distances_b61 : Fld Z h61 b61 "com/example/ref_access_rules/refaccessrules/pattern/Dfa" "distances" "[I" .null := D61 (Or.inr (hw _ (List.mem_of_getElem? (i := 41) rfl))) (ty := (.array .int)) (by decide)
    replace r : A0 l Z n0 D h61 4 15 203 #[.val (.int p0), .val (.int p1), .val (.int (0 : Int32)), .val (.int (2 : Int32)), .val (.int v4_6), .val (.int v5_11), .val (.int v6_16), .val (.int v7_21), .val (.int v8_26), .val (.int v9_31), .val (.ref b32), .val (.ref b45), .val (.ref b54), .unset] [(.ref b61), (.ref b61)] := Own.dup r at_202 rfl
    replace r : A0 l Z n0 D h61 4 15 205 #[.val (.int p0), .val (.int p1), .val (.int (0 : Int32)), .val (.int (2 : Int32)), .val (.int v4_6), .val (.int v5_11), .val (.int v6_16), .val (.int v7_21), .val (.int v8_26), .val (.int v9_31), .val (.ref b32), .val (.ref b45), .val (.ref b54), .unset] [(.ref b54), (.ref b61), (.ref b61)] := Own.aload r at_203 rfl rfl
    replace r : A0 l Z n0 D h61 4 15 207 #[.val (.int p0), .val (.int p1), .val (.int (0 : Int32)), .val (.int (2 : Int32)), .val (.int v4_6), .val (.int v5_11), .val (.int v6_16), .val (.int v7_21), .val (.int v8_26), .val (.int v9_31), .val (.ref b32), .val (.ref b45), .val (.ref b54), .unset] [(.ref b32), (.ref b54), (.ref b61), (.ref b61)] := Own.aload r at_205 rfl rfl
    replace r : A0 l Z n0 D h61 4 15 209 #[.val (.int p0), .val (.int p1), .val (.int (0 : Int32)), .val (.int (2 : Int32)), .val (.int v4_6), .val (.int v5_11), .val (.int v6_16), .val (.int v7_21), .val (.int v8_26), .val (.int v9_31), .val (.ref b32), .val (.ref b45), .val (.ref b54), .unset] [(.ref b45), (.ref b32), (.ref b54), (.ref b61), (.ref b61)] := Own.aload r at_207 rfl rfl
    obtain ⟨t0, ht0, et0⟩ : ∃ t, t < 3 ∧ v4_6 = Own.J t := by rw [e_v4_6]; exact own_cell2 _
    obtain ⟨t1, ht1, et1⟩ : ∃ t, t < 3 ∧ v5_11 = Own.J t := by rw [e_v5_11]; exact own_cell2 _
    obtain ⟨t2, ht2, et2⟩ : ∃ t, t < 3 ∧ v6_16 = Own.J t := by rw [e_v6_16]; exact own_cell2 _
    obtain ⟨t3, ht3, et3⟩ : ∃ t, t < 3 ∧ v7_21 = Own.J t := by rw [e_v7_21]; exact own_cell2 _
    obtain ⟨t4, ht4, et4⟩ : ∃ t, t < 3 ∧ v8_26 = Own.J t := by rw [e_v8_26]; exact own_cell2 _
    obtain ⟨t5, ht5, et5⟩ : ∃ t, t < 3 ∧ v9_31 = Own.J t := by rw [e_v9_31]; exact own_cell2 _
    obtain ⟨w0, hw0, ew0⟩ : ∃ k, k < 2 ∧ nar .boolean m46 = Own.I k := Own.bit01 (Own.ite01 e_m46)
    obtain ⟨w1, hw1, ew1⟩ : ∃ k, k < 2 ∧ nar .boolean m50 = Own.I k := Own.bit01 (Own.ite01 e_m50)
    obtain ⟨d, hm⟩ := own_safe2 [t0, t1, t2, t3, t4, t5] [w0, w1] rfl (by simp; omega) rfl (by simp; omega)
    replace V_b32 : Own.VA Z h61 b32 .int (([t0, t1, t2, t3, t4, t5].map Own.J).map Value.int) := by show Own.VA Z _ _ _ [(.int (Own.J t0)), (.int (Own.J t1)), (.int (Own.J t2)), (.int (Own.J t3)), (.int (Own.J t4)), (.int (Own.J t5))]; rw [← et0, ← et1, ← et2, ← et3, ← et4, ← et5]; exact V_b32
    replace V_b45 : Own.VA Z h61 b45 .boolean (([w0, w1].map Own.I).map Value.int) := by show Own.VA Z _ _ _ [(.int (Own.I w0)), (.int (Own.I w1))]; rw [← ew0, ← ew1]; exact V_b45
    replace V_b54 : Own.VA Z h61 b54 .int ([(0 : Int32), (65 : Int32), (97 : Int32)].map Value.int) := V_b54
    obtain ⟨rv62, h63, hQ64, r⟩ := Own.callI [(.ref b54), (.ref b32), (.ref b45)] r at_209 (c2 l Z a0 hw n0 h61 Zs b61 b54 b32 b45 _ _ _ _ [t0, t1, t2, t3, t4, t5] [w0, w1] [(0 : Int32), (65 : Int32), (97 : Int32)] F_starts_b61 F_table_b61 F_accepting_b61 F_distances_b61 X_b61 ge_b61 V_b54 ne_b54_b61 V_b32 ne_b32_b61 V_b45 ne_b45_b61 (by simp; omega) (Nat.le_of_ble_eq_true rfl) (Nat.le_of_ble_eq_true rfl) (by simp; omega) (by decide) d hm) (hw _ (List.mem_of_getElem? (i := 9) rfl)) (hw _ (List.mem_of_getElem? (i := 10) rfl)) (hw _ (List.mem_of_getElem? (i := 8) rfl)) (hw _ (List.mem_of_getElem? (i := 11) rfl)) rfl (lenOf pd_0_1 rfl) rfl rfl (W := 1) (Nat.le_of_eq rfl) rfl (by decide) (by decide) (by decide) (by decide) (by decide)
    obtain ⟨rfl, K65, X_b61, F_starts_b61, F_table_b61, F_accepting_b61, bd, sz1_bd, F_distances_b61, V_bd⟩ := hQ64
    have ge_bd : n0 ≤ bd := Nat.le_trans Zs sz1_bd
    have ne_b32_bd : b32 ≠ bd := Nat.ne_of_lt (Nat.lt_of_lt_of_le V_b32.lt sz1_bd)
    have ne_b45_bd : b45 ≠ bd := Nat.ne_of_lt (Nat.lt_of_lt_of_le V_b45.lt sz1_bd)
    have ne_b54_bd : b54 ≠ bd := Nat.ne_of_lt (Nat.lt_of_lt_of_le V_b54.lt sz1_bd)
    replace V_b32 := V_b32.keep K65 (by simp [ne_b32_b61])
    replace V_b45 := V_b45.keep K65 (by simp [ne_b45_b61])
    replace V_b54 := V_b54.keep K65 (by simp [ne_b54_b61])
    replace Zs := Nat.le_trans Zs K65.1
    replace r : A0 l Z n0 D h63 9 45 212 #[.val (.int p0), .val (.int p1), .val (.int (0 : Int32)), .val (.int (2 : Int32)), .val (.int v4_6), .val (.int v5_11), .val (.int v6_16), .val (.int v7_21), .val (.int v8_26), .val (.int v9_31), .val (.ref b32), .val (.ref b45), .val (.ref b54), .unset] [(.ref b61)] := r
    replace r : A0 l Z n0 D h63 9 45 214 #[.val (.int p0), .val (.int p1), .val (.int (0 : Int32)), .val (.int (2 : Int32)), .val (.int v4_6), .val (.int v5_11), .val (.int v6_16), .val (.int v7_21), .val (.int v8_26), .val (.int v9_31), .val (.ref b32), .val (.ref b45), .val (.ref b54), .val (.ref b61)] [] := Own.astore r at_212 rfl rfl
    replace r : A0 l Z n0 D h63 9 45 215 #[.val (.int p0), .val (.int p1), .val (.int (0 : Int32)), .val (.int (2 : Int32)), .val (.int v4_6), .val (.int v5_11), .val (.int v6_16), .val (.int v7_21), .val (.int v8_26), .val (.int v9_31), .val (.ref b32), .val (.ref b45), .val (.ref b54), .val (.ref b61)] [(.int (0 : Int32))] := Own.iloadN r at_214 rfl
    replace r : A0 l Z n0 D h63 9 45 296 #[.val (.int p0), .val (.int p1), .val (.int (0 : Int32)), .val (.int (2 : Int32)), .val (.int v4_6), .val (.int v5_11), .val (.int v6_16), .val (.int v7_21), .val (.int v8_26), .val (.int v9_31), .val (.ref b32), .val (.ref b45), .val (.ref b54), .val (.ref b61)] [] := Own.ifYes r at_215 ((if0 _ _).trans (teq (by decide : (0 : Int32) = (0 : Int32))).1) (by decide) (by decide)
    replace r : A0 l Z n0 D h63 9 45 298 #[.val (.int p0), .val (.int p1), .val (.int (0 : Int32)), .val (.int (2 : Int32)), .val (.int v4_6), .val (.int v5_11), .val (.int v6_16), .val (.int v7_21), .val (.int v8_26), .val (.int v9_31), .val (.ref b32), .val (.ref b45), .val (.ref b54), .val (.ref b61)] [(.ref b61)] := Own.aload r at_296 rfl rfl
    replace r : A0 l Z n0 D h63 9 45 299 #[.val (.int p0), .val (.int p1), .val (.int (0 : Int32)), .val (.int (2 : Int32)), .val (.int v4_6), .val (.int v5_11), .val (.int v6_16), .val (.int v7_21), .val (.int v8_26), .val (.int v9_31), .val (.ref b32), .val (.ref b45), .val (.ref b54), .val (.ref b61)] [(.int (0 : Int32)), (.ref b61)] := Own.iconst r at_298 rfl
    replace r : A0 l Z n0 D h63 9 45 300 #[.val (.int p0), .val (.int p1), .val (.int (0 : Int32)), .val (.int (2 : Int32)), .val (.int v4_6), .val (.int v5_11), .val (.int v6_16), .val (.int v7_21), .val (.int v8_26), .val (.int v9_31), .val (.ref b32), .val (.ref b45), .val (.ref b54), .val (.ref b61)] [(.int (0 : Int32)), (.int (0 : Int32)), (.ref b61)] := Own.iconst r at_299 rfl
    obtain ⟨rv66, h67, hQ68, r⟩ := Own.callV [(.int (0 : Int32)), (.int (0 : Int32))] r at_300 (c8 l Z a0 hw n0 h63 Zs b61 (0 : Int32) (0 : Int32) b54 b32 [(0 : Int32), (65 : Int32), (97 : Int32)] ([t0, t1, t2, t3, t4, t5].map Own.J) F_starts_b61 F_table_b61 V_b54 V_b32 0 (Own.J t0) ⟨by decide, by decide⟩ rfl) X_b61 (hw _ (List.mem_of_getElem? (i := 42) rfl)) (hw _ (List.mem_of_getElem? (i := 43) rfl)) (Own.nfS (hw _ (List.mem_of_getElem? (i := 45) rfl))) (hw _ (List.mem_of_getElem? (i := 45) rfl)) (hw _ (List.mem_of_getElem? (i := 44) rfl)) (hw _ (List.mem_of_getElem? (i := 8) rfl)) (hw _ (List.mem_of_getElem? (i := 46) rfl)) (lenOf pd_0_2 rfl) rfl rfl (W := 0) (Nat.le_of_eq rfl) rfl (by decide) (by decide) (by decide) (by decide) (by decide)
    obtain ⟨rfl, rfl⟩ := hQ68
    replace r : A0 l Z n0 D h63 9 45 303 #[.val (.int p0), .val (.int p1), .val (.int (0 : Int32)), .val (.int (2 : Int32)), .val (.int v4_6), .val (.int v5_11), .val (.int v6_16), .val (.int v7_21), .val (.int v8_26), .val (.int v9_31), .val (.ref b32), .val (.ref b45), .val (.ref b54), .val (.ref b61)] [(.int (Own.J t0))] := r
    replace r : A0 l Z n0 D h63 9 45 305 #[.val (.int p0), .val (.int p1), .val (.int (0 : Int32)), .val (.int (2 : Int32)), .val (.int v4_6), .val (.int v5_11), .val (.int v6_16), .val (.int v7_21), .val (.int v8_26), .val (.int v9_31), .val (.ref b32), .val (.ref b45), .val (.ref b54), .val (.ref b61)] [(.int v4_6), (.int (Own.J t0))] := Own.iload r at_303 rfl
    replace r : A0 l Z n0 D h63 9 45 308 #[.val (.int p0), .val (.int p1), .val (.int (0 : Int32)), .val (.int (2 : Int32)), .val (.int v4_6), .val (.int v5_11), .val (.int v6_16), .val (.int v7_21), .val (.int v8_26), .val (.int v9_31), .val (.ref b32), .val (.ref b45), .val (.ref b54), .val (.ref b61)] [] := Own.icmpNo r at_305 (teq et0.symm).2
    replace r : A0 l Z n0 D h63 9 45 310 #[.val (.int p0), .val (.int p1), .val (.int (0 : Int32)), .val (.int (2 : Int32)), .val (.int v4_6), .val (.int v5_11), .val (.int v6_16), .val (.int v7_21), .val (.int v8_26), .val (.int v9_31), .val (.ref b32), .val (.ref b45), .val (.ref b54), .val (.ref b61)] [(.ref b61)] := Own.aload r at_308 rfl rfl
    replace r : A0 l Z n0 D h63 9 45 311 #[.val (.int p0), .val (.int p1), .val (.int (0 : Int32)), .val (.int (2 : Int32)), .val (.int v4_6), .val (.int v5_11), .val (.int v6_16), .val (.int v7_21), .val (.int v8_26), .val (.int v9_31), .val (.ref b32), .val (.ref b45), .val (.ref b54), .val (.ref b61)] [(.int (0 : Int32)), (.ref b61)] := Own.iconst r at_310 rfl
    replace r : A0 l Z n0 D h63 9 45 312 #[.val (.int p0), .val (.int p1), .val (.int (0 : Int32)), .val (.int (2 : Int32)), .val (.int v4_6), .val (.int v5_11), .val (.int v6_16), .val (.int v7_21), .val (.int v8_26), .val (.int v9_31), .val (.ref b32), .val (.ref b45), .val (.ref b54), .val (.ref b61)] [(.int (1 : Int32)), (.int (0 : Int32)), (.ref b61)] := Own.iconst r at_311 rfl
    obtain ⟨rv69, h70, hQ71, r⟩ := Own.callV [(.int (0 : Int32)), (.int (1 : Int32))] r at_312 (c8 l Z a0 hw n0 h63 Zs b61 (0 : Int32) (1 : Int32) b54 b32 [(0 : Int32), (65 : Int32), (97 : Int32)] ([t0, t1, t2, t3, t4, t5].map Own.J) F_starts_b61 F_table_b61 V_b54 V_b32 1 (Own.J t1) ⟨by decide, by decide⟩ rfl) X_b61 (hw _ (List.mem_of_getElem? (i := 42) rfl)) (hw _ (List.mem_of_getElem? (i := 43) rfl)) (Own.nfS (hw _ (List.mem_of_getElem? (i := 45) rfl))) (hw _ (List.mem_of_getElem? (i := 45) rfl)) (hw _ (List.mem_of_getElem? (i := 44) rfl)) (hw _ (List.mem_of_getElem? (i := 8) rfl)) (hw _ (List.mem_of_getElem? (i := 46) rfl)) (lenOf pd_0_2 rfl) rfl rfl (W := 0) (Nat.le_of_eq rfl) rfl (by decide) (by decide) (by decide) (by decide) (by decide)
    obtain ⟨rfl, rfl⟩ := hQ71
    replace r : A0 l Z n0 D h63 9 45 315 #[.val (.int p0), .val (.int p1), .val (.int (0 : Int32)), .val (.int (2 : Int32)), .val (.int v4_6), .val (.int v5_11), .val (.int v6_16), .val (.int v7_21), .val (.int v8_26), .val (.int v9_31), .val (.ref b32), .val (.ref b45), .val (.ref b54), .val (.ref b61)] [(.int (Own.J t1))] := r
    replace r : A0 l Z n0 D h63 9 45 317 #[.val (.int p0), .val (.int p1), .val (.int (0 : Int32)), .val (.int (2 : Int32)), .val (.int v4_6), .val (.int v5_11), .val (.int v6_16), .val (.int v7_21), .val (.int v8_26), .val (.int v9_31), .val (.ref b32), .val (.ref b45), .val (.ref b54), .val (.ref b61)] [(.int v5_11), (.int (Own.J t1))] := Own.iload r at_315 rfl
    replace r : A0 l Z n0 D h63 9 45 320 #[.val (.int p0), .val (.int p1), .val (.int (0 : Int32)), .val (.int (2 : Int32)), .val (.int v4_6), .val (.int v5_11), .val (.int v6_16), .val (.int v7_21), .val (.int v8_26), .val (.int v9_31), .val (.ref b32), .val (.ref b45), .val (.ref b54), .val (.ref b61)] [] := Own.icmpNo r at_317 (teq et1.symm).2
    replace r : A0 l Z n0 D h63 9 45 322 #[.val (.int p0), .val (.int p1), .val (.int (0 : Int32)), .val (.int (2 : Int32)), .val (.int v4_6), .val (.int v5_11), .val (.int v6_16), .val (.int v7_21), .val (.int v8_26), .val (.int v9_31), .val (.ref b32), .val (.ref b45), .val (.ref b54), .val (.ref b61)] [(.ref b61)] := Own.aload r at_320 rfl rfl
    replace r : A0 l Z n0 D h63 9 45 323 #[.val (.int p0), .val (.int p1), .val (.int (0 : Int32)), .val (.int (2 : Int32)), .val (.int v4_6), .val (.int v5_11), .val (.int v6_16), .val (.int v7_21), .val (.int v8_26), .val (.int v9_31), .val (.ref b32), .val (.ref b45), .val (.ref b54), .val (.ref b61)] [(.int (0 : Int32)), (.ref b61)] := Own.iconst r at_322 rfl
    replace r : A0 l Z n0 D h63 9 45 324 #[.val (.int p0), .val (.int p1), .val (.int (0 : Int32)), .val (.int (2 : Int32)), .val (.int v4_6), .val (.int v5_11), .val (.int v6_16), .val (.int v7_21), .val (.int v8_26), .val (.int v9_31), .val (.ref b32), .val (.ref b45), .val (.ref b54), .val (.ref b61)] [(.int (2 : Int32)), (.int (0 : Int32)), (.ref b61)] := Own.iconst r at_323 rfl
    obtain ⟨rv72, h73, hQ74, r⟩ := Own.callV [(.int (0 : Int32)), (.int (2 : Int32))] r at_324 (c8 l Z a0 hw n0 h63 Zs b61 (0 : Int32) (2 : Int32) b54 b32 [(0 : Int32), (65 : Int32), (97 : Int32)] ([t0, t1, t2, t3, t4, t5].map Own.J) F_starts_b61 F_table_b61 V_b54 V_b32 2 (Own.J t2) ⟨by decide, by decide⟩ rfl) X_b61 (hw _ (List.mem_of_getElem? (i := 42) rfl)) (hw _ (List.mem_of_getElem? (i := 43) rfl)) (Own.nfS (hw _ (List.mem_of_getElem? (i := 45) rfl))) (hw _ (List.mem_of_getElem? (i := 45) rfl)) (hw _ (List.mem_of_getElem? (i := 44) rfl)) (hw _ (List.mem_of_getElem? (i := 8) rfl)) (hw _ (List.mem_of_getElem? (i := 46) rfl)) (lenOf pd_0_2 rfl) rfl rfl (W := 0) (Nat.le_of_eq rfl) rfl (by decide) (by decide) (by decide) (by decide) (by decide)
    obtain ⟨rfl, rfl⟩ := hQ74
    replace r : A0 l Z n0 D h63 9 45 327 #[.val (.int p0), .val (.int p1), .val (.int (0 : Int32)), .val (.int (2 : Int32)), .val (.int v4_6), .val (.int v5_11), .val (.int v6_16), .val (.int v7_21), .val (.int v8_26), .val (.int v9_31), .val (.ref b32), .val (.ref b45), .val (.ref b54), .val (.ref b61)] [(.int (Own.J t2))] := r
    replace r : A0 l Z n0 D h63 9 45 329 #[.val (.int p0), .val (.int p1), .val (.int (0 : Int32)), .val (.int (2 : Int32)), .val (.int v4_6), .val (.int v5_11), .val (.int v6_16), .val (.int v7_21), .val (.int v8_26), .val (.int v9_31), .val (.ref b32), .val (.ref b45), .val (.ref b54), .val (.ref b61)] [(.int v6_16), (.int (Own.J t2))] := Own.iload r at_327 rfl
    replace r : A0 l Z n0 D h63 9 45 332 #[.val (.int p0), .val (.int p1), .val (.int (0 : Int32)), .val (.int (2 : Int32)), .val (.int v4_6), .val (.int v5_11), .val (.int v6_16), .val (.int v7_21), .val (.int v8_26), .val (.int v9_31), .val (.ref b32), .val (.ref b45), .val (.ref b54), .val (.ref b61)] [] := Own.icmpNo r at_329 (teq et2.symm).2
    replace r : A0 l Z n0 D h63 9 45 334 #[.val (.int p0), .val (.int p1), .val (.int (0 : Int32)), .val (.int (2 : Int32)), .val (.int v4_6), .val (.int v5_11), .val (.int v6_16), .val (.int v7_21), .val (.int v8_26), .val (.int v9_31), .val (.ref b32), .val (.ref b45), .val (.ref b54), .val (.ref b61)] [(.ref b61)] := Own.aload r at_332 rfl rfl
    replace r : A0 l Z n0 D h63 9 45 335 #[.val (.int p0), .val (.int p1), .val (.int (0 : Int32)), .val (.int (2 : Int32)), .val (.int v4_6), .val (.int v5_11), .val (.int v6_16), .val (.int v7_21), .val (.int v8_26), .val (.int v9_31), .val (.ref b32), .val (.ref b45), .val (.ref b54), .val (.ref b61)] [(.int (1 : Int32)), (.ref b61)] := Own.iconst r at_334 rfl
    replace r : A0 l Z n0 D h63 9 45 336 #[.val (.int p0), .val (.int p1), .val (.int (0 : Int32)), .val (.int (2 : Int32)), .val (.int v4_6), .val (.int v5_11), .val (.int v6_16), .val (.int v7_21), .val (.int v8_26), .val (.int v9_31), .val (.ref b32), .val (.ref b45), .val (.ref b54), .val (.ref b61)] [(.int (0 : Int32)), (.int (1 : Int32)), (.ref b61)] := Own.iconst r at_335 rfl
    obtain ⟨rv75, h76, hQ77, r⟩ := Own.callV [(.int (1 : Int32)), (.int (0 : Int32))] r at_336 (c8 l Z a0 hw n0 h63 Zs b61 (1 : Int32) (0 : Int32) b54 b32 [(0 : Int32), (65 : Int32), (97 : Int32)] ([t0, t1, t2, t3, t4, t5].map Own.J) F_starts_b61 F_table_b61 V_b54 V_b32 3 (Own.J t3) ⟨by decide, by decide⟩ rfl) X_b61 (hw _ (List.mem_of_getElem? (i := 42) rfl)) (hw _ (List.mem_of_getElem? (i := 43) rfl)) (Own.nfS (hw _ (List.mem_of_getElem? (i := 45) rfl))) (hw _ (List.mem_of_getElem? (i := 45) rfl)) (hw _ (List.mem_of_getElem? (i := 44) rfl)) (hw _ (List.mem_of_getElem? (i := 8) rfl)) (hw _ (List.mem_of_getElem? (i := 46) rfl)) (lenOf pd_0_2 rfl) rfl rfl (W := 0) (Nat.le_of_eq rfl) rfl (by decide) (by decide) (by decide) (by decide) (by decide)
    obtain ⟨rfl, rfl⟩ := hQ77
    replace r : A0 l Z n0 D h63 9 45 339 #[.val (.int p0), .val (.int p1), .val (.int (0 : Int32)), .val (.int (2 : Int32)), .val (.int v4_6), .val (.int v5_11), .val (.int v6_16), .val (.int v7_21), .val (.int v8_26), .val (.int v9_31), .val (.ref b32), .val (.ref b45), .val (.ref b54), .val (.ref b61)] [(.int (Own.J t3))] := r
    replace r : A0 l Z n0 D h63 9 45 341 #[.val (.int p0), .val (.int p1), .val (.int (0 : Int32)), .val (.int (2 : Int32)), .val (.int v4_6), .val (.int v5_11), .val (.int v6_16), .val (.int v7_21), .val (.int v8_26), .val (.int v9_31), .val (.ref b32), .val (.ref b45), .val (.ref b54), .val (.ref b61)] [(.int v7_21), (.int (Own.J t3))] := Own.iload r at_339 rfl
    replace r : A0 l Z n0 D h63 9 45 344 #[.val (.int p0), .val (.int p1), .val (.int (0 : Int32)), .val (.int (2 : Int32)), .val (.int v4_6), .val (.int v5_11), .val (.int v6_16), .val (.int v7_21), .val (.int v8_26), .val (.int v9_31), .val (.ref b32), .val (.ref b45), .val (.ref b54), .val (.ref b61)] [] := Own.icmpNo r at_341 (teq et3.symm).2
    replace r : A0 l Z n0 D h63 9 45 346 #[.val (.int p0), .val (.int p1), .val (.int (0 : Int32)), .val (.int (2 : Int32)), .val (.int v4_6), .val (.int v5_11), .val (.int v6_16), .val (.int v7_21), .val (.int v8_26), .val (.int v9_31), .val (.ref b32), .val (.ref b45), .val (.ref b54), .val (.ref b61)] [(.ref b61)] := Own.aload r at_344 rfl rfl
    replace r : A0 l Z n0 D h63 9 45 347 #[.val (.int p0), .val (.int p1), .val (.int (0 : Int32)), .val (.int (2 : Int32)), .val (.int v4_6), .val (.int v5_11), .val (.int v6_16), .val (.int v7_21), .val (.int v8_26), .val (.int v9_31), .val (.ref b32), .val (.ref b45), .val (.ref b54), .val (.ref b61)] [(.int (1 : Int32)), (.ref b61)] := Own.iconst r at_346 rfl
    replace r : A0 l Z n0 D h63 9 45 348 #[.val (.int p0), .val (.int p1), .val (.int (0 : Int32)), .val (.int (2 : Int32)), .val (.int v4_6), .val (.int v5_11), .val (.int v6_16), .val (.int v7_21), .val (.int v8_26), .val (.int v9_31), .val (.ref b32), .val (.ref b45), .val (.ref b54), .val (.ref b61)] [(.int (1 : Int32)), (.int (1 : Int32)), (.ref b61)] := Own.iconst r at_347 rfl
    obtain ⟨rv78, h79, hQ80, r⟩ := Own.callV [(.int (1 : Int32)), (.int (1 : Int32))] r at_348 (c8 l Z a0 hw n0 h63 Zs b61 (1 : Int32) (1 : Int32) b54 b32 [(0 : Int32), (65 : Int32), (97 : Int32)] ([t0, t1, t2, t3, t4, t5].map Own.J) F_starts_b61 F_table_b61 V_b54 V_b32 4 (Own.J t4) ⟨by decide, by decide⟩ rfl) X_b61 (hw _ (List.mem_of_getElem? (i := 42) rfl)) (hw _ (List.mem_of_getElem? (i := 43) rfl)) (Own.nfS (hw _ (List.mem_of_getElem? (i := 45) rfl))) (hw _ (List.mem_of_getElem? (i := 45) rfl)) (hw _ (List.mem_of_getElem? (i := 44) rfl)) (hw _ (List.mem_of_getElem? (i := 8) rfl)) (hw _ (List.mem_of_getElem? (i := 46) rfl)) (lenOf pd_0_2 rfl) rfl rfl (W := 0) (Nat.le_of_eq rfl) rfl (by decide) (by decide) (by decide) (by decide) (by decide)
    obtain ⟨rfl, rfl⟩ := hQ80
    replace r : A0 l Z n0 D h63 9 45 351 #[.val (.int p0), .val (.int p1), .val (.int (0 : Int32)), .val (.int (2 : Int32)), .val (.int v4_6), .val (.int v5_11), .val (.int v6_16), .val (.int v7_21), .val (.int v8_26), .val (.int v9_31), .val (.ref b32), .val (.ref b45), .val (.ref b54), .val (.ref b61)] [(.int (Own.J t4))] := r
    replace r : A0 l Z n0 D h63 9 45 353 #[.val (.int p0), .val (.int p1), .val (.int (0 : Int32)), .val (.int (2 : Int32)), .val (.int v4_6), .val (.int v5_11), .val (.int v6_16), .val (.int v7_21), .val (.int v8_26), .val (.int v9_31), .val (.ref b32), .val (.ref b45), .val (.ref b54), .val (.ref b61)] [(.int v8_26), (.int (Own.J t4))] := Own.iload r at_351 rfl
    replace r : A0 l Z n0 D h63 9 45 356 #[.val (.int p0), .val (.int p1), .val (.int (0 : Int32)), .val (.int (2 : Int32)), .val (.int v4_6), .val (.int v5_11), .val (.int v6_16), .val (.int v7_21), .val (.int v8_26), .val (.int v9_31), .val (.ref b32), .val (.ref b45), .val (.ref b54), .val (.ref b61)] [] := Own.icmpNo r at_353 (teq et4.symm).2
    replace r : A0 l Z n0 D h63 9 45 358 #[.val (.int p0), .val (.int p1), .val (.int (0 : Int32)), .val (.int (2 : Int32)), .val (.int v4_6), .val (.int v5_11), .val (.int v6_16), .val (.int v7_21), .val (.int v8_26), .val (.int v9_31), .val (.ref b32), .val (.ref b45), .val (.ref b54), .val (.ref b61)] [(.ref b61)] := Own.aload r at_356 rfl rfl
    replace r : A0 l Z n0 D h63 9 45 359 #[.val (.int p0), .val (.int p1), .val (.int (0 : Int32)), .val (.int (2 : Int32)), .val (.int v4_6), .val (.int v5_11), .val (.int v6_16), .val (.int v7_21), .val (.int v8_26), .val (.int v9_31), .val (.ref b32), .val (.ref b45), .val (.ref b54), .val (.ref b61)] [(.int (1 : Int32)), (.ref b61)] := Own.iconst r at_358 rfl
    replace r : A0 l Z n0 D h63 9 45 360 #[.val (.int p0), .val (.int p1), .val (.int (0 : Int32)), .val (.int (2 : Int32)), .val (.int v4_6), .val (.int v5_11), .val (.int v6_16), .val (.int v7_21), .val (.int v8_26), .val (.int v9_31), .val (.ref b32), .val (.ref b45), .val (.ref b54), .val (.ref b61)] [(.int (2 : Int32)), (.int (1 : Int32)), (.ref b61)] := Own.iconst r at_359 rfl
    obtain ⟨rv81, h82, hQ83, r⟩ := Own.callV [(.int (1 : Int32)), (.int (2 : Int32))] r at_360 (c8 l Z a0 hw n0 h63 Zs b61 (1 : Int32) (2 : Int32) b54 b32 [(0 : Int32), (65 : Int32), (97 : Int32)] ([t0, t1, t2, t3, t4, t5].map Own.J) F_starts_b61 F_table_b61 V_b54 V_b32 5 (Own.J t5) ⟨by decide, by decide⟩ rfl) X_b61 (hw _ (List.mem_of_getElem? (i := 42) rfl)) (hw _ (List.mem_of_getElem? (i := 43) rfl)) (Own.nfS (hw _ (List.mem_of_getElem? (i := 45) rfl))) (hw _ (List.mem_of_getElem? (i := 45) rfl)) (hw _ (List.mem_of_getElem? (i := 44) rfl)) (hw _ (List.mem_of_getElem? (i := 8) rfl)) (hw _ (List.mem_of_getElem? (i := 46) rfl)) (lenOf pd_0_2 rfl) rfl rfl (W := 0) (Nat.le_of_eq rfl) rfl (by decide) (by decide) (by decide) (by decide) (by decide)
    obtain ⟨rfl, rfl⟩ := hQ83
    replace r : A0 l Z n0 D h63 9 45 363 #[.val (.int p0), .val (.int p1), .val (.int (0 : Int32)), .val (.int (2 : Int32)), .val (.int v4_6), .val (.int v5_11), .val (.int v6_16), .val (.int v7_21), .val (.int v8_26), .val (.int v9_31), .val (.ref b32), .val (.ref b45), .val (.ref b54), .val (.ref b61)] [(.int (Own.J t5))] := r
    replace r : A0 l Z n0 D h63 9 45 365 #[.val (.int p0), .val (.int p1), .val (.int (0 : Int32)), .val (.int (2 : Int32)), .val (.int v4_6), .val (.int v5_11), .val (.int v6_16), .val (.int v7_21), .val (.int v8_26), .val (.int v9_31), .val (.ref b32), .val (.ref b45), .val (.ref b54), .val (.ref b61)] [(.int v9_31), (.int (Own.J t5))] := Own.iload r at_363 rfl
    replace r : A0 l Z n0 D h63 9 45 368 #[.val (.int p0), .val (.int p1), .val (.int (0 : Int32)), .val (.int (2 : Int32)), .val (.int v4_6), .val (.int v5_11), .val (.int v6_16), .val (.int v7_21), .val (.int v8_26), .val (.int v9_31), .val (.ref b32), .val (.ref b45), .val (.ref b54), .val (.ref b61)] [] := Own.icmpNo r at_365 (teq et5.symm).2
    replace r : A0 l Z n0 D h63 9 45 369 #[.val (.int p0), .val (.int p1), .val (.int (0 : Int32)), .val (.int (2 : Int32)), .val (.int v4_6), .val (.int v5_11), .val (.int v6_16), .val (.int v7_21), .val (.int v8_26), .val (.int v9_31), .val (.ref b32), .val (.ref b45), .val (.ref b54), .val (.ref b61)] [(.int (1 : Int32))] := Own.iconst r at_368 rfl
    replace r : A0 l Z n0 D h63 9 45 373 #[.val (.int p0), .val (.int p1), .val (.int (0 : Int32)), .val (.int (2 : Int32)), .val (.int v4_6), .val (.int v5_11), .val (.int v6_16), .val (.int v7_21), .val (.int v8_26), .val (.int v9_31), .val (.ref b32), .val (.ref b45), .val (.ref b54), .val (.ref b61)] [(.int (1 : Int32))] := Own.goto r at_369 (by decide) (by decide)
    exact ⟨_, _, (Own.Rch.retZ (y := x) (bytes := code) (mx := maxLocals) r at_373 (by decide)).more (by decide) (by decide), rfl⟩
  · skip
    replace r : A0 l Z n0 D h 0 0 6 #[.val (.int p0), .val (.int p1), .unset, .unset, .unset, .unset, .unset, .unset, .unset, .unset, .unset, .unset, .unset, .unset] [] := Own.ifNo r at_3 ((if0 _ _).trans (feq br1).1)
    replace r : A0 l Z n0 D h 0 0 7 #[.val (.int p0), .val (.int p1), .unset, .unset, .unset, .unset, .unset, .unset, .unset, .unset, .unset, .unset, .unset, .unset] [(.int (1 : Int32))] := Own.iconst r at_6 rfl
    replace r : A0 l Z n0 D h 0 0 11 #[.val (.int p0), .val (.int p1), .unset, .unset, .unset, .unset, .unset, .unset, .unset, .unset, .unset, .unset, .unset, .unset] [(.int (1 : Int32))] := Own.goto r at_7 (by decide) (by decide)
    replace r : A0 l Z n0 D h 0 0 12 #[.val (.int p0), .val (.int p1), .val (.int (1 : Int32)), .unset, .unset, .unset, .unset, .unset, .unset, .unset, .unset, .unset, .unset, .unset] [] := Own.istoreN r at_11 rfl
    replace r : A0 l Z n0 D h 0 0 13 #[.val (.int p0), .val (.int p1), .val (.int (1 : Int32)), .unset, .unset, .unset, .unset, .unset, .unset, .unset, .unset, .unset, .unset, .unset] [(.int (1 : Int32))] := Own.iloadN r at_12 rfl
    replace r : A0 l Z n0 D h 0 0 16 #[.val (.int p0), .val (.int p1), .val (.int (1 : Int32)), .unset, .unset, .unset, .unset, .unset, .unset, .unset, .unset, .unset, .unset, .unset] [] := Own.ifNo r at_13 ((if0 _ _).trans (feq (by decide : ¬ ((1 : Int32) = (0 : Int32)))).1)
    replace r : A0 l Z n0 D h 0 0 17 #[.val (.int p0), .val (.int p1), .val (.int (1 : Int32)), .unset, .unset, .unset, .unset, .unset, .unset, .unset, .unset, .unset, .unset, .unset] [(.int (3 : Int32))] := Own.iconst r at_16 rfl
    replace r : A0 l Z n0 D h 0 0 21 #[.val (.int p0), .val (.int p1), .val (.int (1 : Int32)), .unset, .unset, .unset, .unset, .unset, .unset, .unset, .unset, .unset, .unset, .unset] [(.int (3 : Int32))] := Own.goto r at_17 (by decide) (by decide)
    replace r : A0 l Z n0 D h 0 0 22 #[.val (.int p0), .val (.int p1), .val (.int (1 : Int32)), .val (.int (3 : Int32)), .unset, .unset, .unset, .unset, .unset, .unset, .unset, .unset, .unset, .unset] [] := Own.istoreN r at_21 rfl
    replace r : A0 l Z n0 D h 0 0 23 #[.val (.int p0), .val (.int p1), .val (.int (1 : Int32)), .val (.int (3 : Int32)), .unset, .unset, .unset, .unset, .unset, .unset, .unset, .unset, .unset, .unset] [(.int p0)] := Own.iloadN r at_22 rfl
    replace r : A0 l Z n0 D h 0 0 24 #[.val (.int p0), .val (.int p1), .val (.int (1 : Int32)), .val (.int (3 : Int32)), .unset, .unset, .unset, .unset, .unset, .unset, .unset, .unset, .unset, .unset] [(.int (0 : Int32)), (.int p0)] := Own.iconst r at_23 rfl
    replace r : A0 l Z n0 D h 0 0 25 #[.val (.int p0), .val (.int p1), .val (.int (1 : Int32)), .val (.int (3 : Int32)), .unset, .unset, .unset, .unset, .unset, .unset, .unset, .unset, .unset, .unset] [(.int (3 : Int32)), (.int (0 : Int32)), (.int p0)] := Own.iloadN r at_24 rfl
    obtain ⟨rv84, h85, hQ86, r⟩ := Own.callS [(.int p0), (.int (0 : Int32)), (.int (3 : Int32))] r at_25 (c1 l Z a0 hw n0 h Zs p0 (0 : Int32) (3 : Int32) (by decide)) (hw _ (List.mem_of_getElem? (i := 0) rfl)) (hw _ (List.mem_of_getElem? (i := 1) rfl)) (hw _ (List.mem_of_getElem? (i := 2) rfl)) (hw _ (List.mem_of_getElem? (i := 3) rfl)) (lenOf pd_0_0 rfl) rfl rfl (W := 0) (Nat.le_of_eq rfl) rfl (by decide) (by decide) (by decide) (by decide) (by decide)
    obtain ⟨rfl, y87, rfl, e_y87⟩ := hQ86
    replace e_y87 : ((((Own.iushrW p0 ((2 : Int32) * (0 : Int32))) &&& (3 : Int32)) % ((3 : Int32) + (1 : Int32))) - (1 : Int32)) = y87 := e_y87.symm
    subst e_y87
    replace r : A0 l Z n0 D h 0 0 28 #[.val (.int p0), .val (.int p1), .val (.int (1 : Int32)), .val (.int (3 : Int32)), .unset, .unset, .unset, .unset, .unset, .unset, .unset, .unset, .unset, .unset] [(.int ((((Own.iushrW p0 ((2 : Int32) * (0 : Int32))) &&& (3 : Int32)) % ((3 : Int32) + (1 : Int32))) - (1 : Int32)))] := r
    obtain ⟨v4_88, e_v4_88⟩ : ∃ z : Int32, z = ((((Own.iushrW p0 ((2 : Int32) * (0 : Int32))) &&& (3 : Int32)) % ((3 : Int32) + (1 : Int32))) - (1 : Int32)) := ⟨_, rfl⟩
    replace r : A0 l Z n0 D h 0 0 28 #[.val (.int p0), .val (.int p1), .val (.int (1 : Int32)), .val (.int (3 : Int32)), .unset, .unset, .unset, .unset, .unset, .unset, .unset, .unset, .unset, .unset] [(.int v4_88)] := by rw [e_v4_88]; exact r
    replace r : A0 l Z n0 D h 0 0 30 #[.val (.int p0), .val (.int p1), .val (.int (1 : Int32)), .val (.int (3 : Int32)), .val (.int v4_88), .unset, .unset, .unset, .unset, .unset, .unset, .unset, .unset, .unset] [] := Own.istore r at_28 rfl
    replace r : A0 l Z n0 D h 0 0 31 #[.val (.int p0), .val (.int p1), .val (.int (1 : Int32)), .val (.int (3 : Int32)), .val (.int v4_88), .unset, .unset, .unset, .unset, .unset, .unset, .unset, .unset, .unset] [(.int p0)] := Own.iloadN r at_30 rfl
    replace r : A0 l Z n0 D h 0 0 32 #[.val (.int p0), .val (.int p1), .val (.int (1 : Int32)), .val (.int (3 : Int32)), .val (.int v4_88), .unset, .unset, .unset, .unset, .unset, .unset, .unset, .unset, .unset] [(.int (1 : Int32)), (.int p0)] := Own.iconst r at_31 rfl
    replace r : A0 l Z n0 D h 0 0 33 #[.val (.int p0), .val (.int p1), .val (.int (1 : Int32)), .val (.int (3 : Int32)), .val (.int v4_88), .unset, .unset, .unset, .unset, .unset, .unset, .unset, .unset, .unset] [(.int (3 : Int32)), (.int (1 : Int32)), (.int p0)] := Own.iloadN r at_32 rfl
    obtain ⟨rv89, h90, hQ91, r⟩ := Own.callS [(.int p0), (.int (1 : Int32)), (.int (3 : Int32))] r at_33 (c1 l Z a0 hw n0 h Zs p0 (1 : Int32) (3 : Int32) (by decide)) (hw _ (List.mem_of_getElem? (i := 0) rfl)) (hw _ (List.mem_of_getElem? (i := 1) rfl)) (hw _ (List.mem_of_getElem? (i := 2) rfl)) (hw _ (List.mem_of_getElem? (i := 3) rfl)) (lenOf pd_0_0 rfl) rfl rfl (W := 0) (Nat.le_of_eq rfl) rfl (by decide) (by decide) (by decide) (by decide) (by decide)
    obtain ⟨rfl, y92, rfl, e_y92⟩ := hQ91
    replace e_y92 : ((((Own.iushrW p0 ((2 : Int32) * (1 : Int32))) &&& (3 : Int32)) % ((3 : Int32) + (1 : Int32))) - (1 : Int32)) = y92 := e_y92.symm
    subst e_y92
    replace r : A0 l Z n0 D h 0 0 36 #[.val (.int p0), .val (.int p1), .val (.int (1 : Int32)), .val (.int (3 : Int32)), .val (.int v4_88), .unset, .unset, .unset, .unset, .unset, .unset, .unset, .unset, .unset] [(.int ((((Own.iushrW p0 ((2 : Int32) * (1 : Int32))) &&& (3 : Int32)) % ((3 : Int32) + (1 : Int32))) - (1 : Int32)))] := r
    obtain ⟨v5_93, e_v5_93⟩ : ∃ z : Int32, z = ((((Own.iushrW p0 ((2 : Int32) * (1 : Int32))) &&& (3 : Int32)) % ((3 : Int32) + (1 : Int32))) - (1 : Int32)) := ⟨_, rfl⟩
    replace r : A0 l Z n0 D h 0 0 36 #[.val (.int p0), .val (.int p1), .val (.int (1 : Int32)), .val (.int (3 : Int32)), .val (.int v4_88), .unset, .unset, .unset, .unset, .unset, .unset, .unset, .unset, .unset] [(.int v5_93)] := by rw [e_v5_93]; exact r
    replace r : A0 l Z n0 D h 0 0 38 #[.val (.int p0), .val (.int p1), .val (.int (1 : Int32)), .val (.int (3 : Int32)), .val (.int v4_88), .val (.int v5_93), .unset, .unset, .unset, .unset, .unset, .unset, .unset, .unset] [] := Own.istore r at_36 rfl
    replace r : A0 l Z n0 D h 0 0 39 #[.val (.int p0), .val (.int p1), .val (.int (1 : Int32)), .val (.int (3 : Int32)), .val (.int v4_88), .val (.int v5_93), .unset, .unset, .unset, .unset, .unset, .unset, .unset, .unset] [(.int p0)] := Own.iloadN r at_38 rfl
    replace r : A0 l Z n0 D h 0 0 40 #[.val (.int p0), .val (.int p1), .val (.int (1 : Int32)), .val (.int (3 : Int32)), .val (.int v4_88), .val (.int v5_93), .unset, .unset, .unset, .unset, .unset, .unset, .unset, .unset] [(.int (2 : Int32)), (.int p0)] := Own.iconst r at_39 rfl
    replace r : A0 l Z n0 D h 0 0 41 #[.val (.int p0), .val (.int p1), .val (.int (1 : Int32)), .val (.int (3 : Int32)), .val (.int v4_88), .val (.int v5_93), .unset, .unset, .unset, .unset, .unset, .unset, .unset, .unset] [(.int (3 : Int32)), (.int (2 : Int32)), (.int p0)] := Own.iloadN r at_40 rfl
    obtain ⟨rv94, h95, hQ96, r⟩ := Own.callS [(.int p0), (.int (2 : Int32)), (.int (3 : Int32))] r at_41 (c1 l Z a0 hw n0 h Zs p0 (2 : Int32) (3 : Int32) (by decide)) (hw _ (List.mem_of_getElem? (i := 0) rfl)) (hw _ (List.mem_of_getElem? (i := 1) rfl)) (hw _ (List.mem_of_getElem? (i := 2) rfl)) (hw _ (List.mem_of_getElem? (i := 3) rfl)) (lenOf pd_0_0 rfl) rfl rfl (W := 0) (Nat.le_of_eq rfl) rfl (by decide) (by decide) (by decide) (by decide) (by decide)
    obtain ⟨rfl, y97, rfl, e_y97⟩ := hQ96
    replace e_y97 : ((((Own.iushrW p0 ((2 : Int32) * (2 : Int32))) &&& (3 : Int32)) % ((3 : Int32) + (1 : Int32))) - (1 : Int32)) = y97 := e_y97.symm
    subst e_y97
    replace r : A0 l Z n0 D h 0 0 44 #[.val (.int p0), .val (.int p1), .val (.int (1 : Int32)), .val (.int (3 : Int32)), .val (.int v4_88), .val (.int v5_93), .unset, .unset, .unset, .unset, .unset, .unset, .unset, .unset] [(.int ((((Own.iushrW p0 ((2 : Int32) * (2 : Int32))) &&& (3 : Int32)) % ((3 : Int32) + (1 : Int32))) - (1 : Int32)))] := r
    obtain ⟨v6_98, e_v6_98⟩ : ∃ z : Int32, z = ((((Own.iushrW p0 ((2 : Int32) * (2 : Int32))) &&& (3 : Int32)) % ((3 : Int32) + (1 : Int32))) - (1 : Int32)) := ⟨_, rfl⟩
    replace r : A0 l Z n0 D h 0 0 44 #[.val (.int p0), .val (.int p1), .val (.int (1 : Int32)), .val (.int (3 : Int32)), .val (.int v4_88), .val (.int v5_93), .unset, .unset, .unset, .unset, .unset, .unset, .unset, .unset] [(.int v6_98)] := by rw [e_v6_98]; exact r
    replace r : A0 l Z n0 D h 0 0 46 #[.val (.int p0), .val (.int p1), .val (.int (1 : Int32)), .val (.int (3 : Int32)), .val (.int v4_88), .val (.int v5_93), .val (.int v6_98), .unset, .unset, .unset, .unset, .unset, .unset, .unset] [] := Own.istore r at_44 rfl
    replace r : A0 l Z n0 D h 0 0 47 #[.val (.int p0), .val (.int p1), .val (.int (1 : Int32)), .val (.int (3 : Int32)), .val (.int v4_88), .val (.int v5_93), .val (.int v6_98), .unset, .unset, .unset, .unset, .unset, .unset, .unset] [(.int p0)] := Own.iloadN r at_46 rfl
    replace r : A0 l Z n0 D h 0 0 48 #[.val (.int p0), .val (.int p1), .val (.int (1 : Int32)), .val (.int (3 : Int32)), .val (.int v4_88), .val (.int v5_93), .val (.int v6_98), .unset, .unset, .unset, .unset, .unset, .unset, .unset] [(.int (3 : Int32)), (.int p0)] := Own.iconst r at_47 rfl
    replace r : A0 l Z n0 D h 0 0 49 #[.val (.int p0), .val (.int p1), .val (.int (1 : Int32)), .val (.int (3 : Int32)), .val (.int v4_88), .val (.int v5_93), .val (.int v6_98), .unset, .unset, .unset, .unset, .unset, .unset, .unset] [(.int (3 : Int32)), (.int (3 : Int32)), (.int p0)] := Own.iloadN r at_48 rfl
    obtain ⟨rv99, h100, hQ101, r⟩ := Own.callS [(.int p0), (.int (3 : Int32)), (.int (3 : Int32))] r at_49 (c1 l Z a0 hw n0 h Zs p0 (3 : Int32) (3 : Int32) (by decide)) (hw _ (List.mem_of_getElem? (i := 0) rfl)) (hw _ (List.mem_of_getElem? (i := 1) rfl)) (hw _ (List.mem_of_getElem? (i := 2) rfl)) (hw _ (List.mem_of_getElem? (i := 3) rfl)) (lenOf pd_0_0 rfl) rfl rfl (W := 0) (Nat.le_of_eq rfl) rfl (by decide) (by decide) (by decide) (by decide) (by decide)
    obtain ⟨rfl, y102, rfl, e_y102⟩ := hQ101
    replace e_y102 : ((((Own.iushrW p0 ((2 : Int32) * (3 : Int32))) &&& (3 : Int32)) % ((3 : Int32) + (1 : Int32))) - (1 : Int32)) = y102 := e_y102.symm
    subst e_y102
    replace r : A0 l Z n0 D h 0 0 52 #[.val (.int p0), .val (.int p1), .val (.int (1 : Int32)), .val (.int (3 : Int32)), .val (.int v4_88), .val (.int v5_93), .val (.int v6_98), .unset, .unset, .unset, .unset, .unset, .unset, .unset] [(.int ((((Own.iushrW p0 ((2 : Int32) * (3 : Int32))) &&& (3 : Int32)) % ((3 : Int32) + (1 : Int32))) - (1 : Int32)))] := r
    obtain ⟨v7_103, e_v7_103⟩ : ∃ z : Int32, z = ((((Own.iushrW p0 ((2 : Int32) * (3 : Int32))) &&& (3 : Int32)) % ((3 : Int32) + (1 : Int32))) - (1 : Int32)) := ⟨_, rfl⟩
    replace r : A0 l Z n0 D h 0 0 52 #[.val (.int p0), .val (.int p1), .val (.int (1 : Int32)), .val (.int (3 : Int32)), .val (.int v4_88), .val (.int v5_93), .val (.int v6_98), .unset, .unset, .unset, .unset, .unset, .unset, .unset] [(.int v7_103)] := by rw [e_v7_103]; exact r
    replace r : A0 l Z n0 D h 0 0 54 #[.val (.int p0), .val (.int p1), .val (.int (1 : Int32)), .val (.int (3 : Int32)), .val (.int v4_88), .val (.int v5_93), .val (.int v6_98), .val (.int v7_103), .unset, .unset, .unset, .unset, .unset, .unset] [] := Own.istore r at_52 rfl
    replace r : A0 l Z n0 D h 0 0 55 #[.val (.int p0), .val (.int p1), .val (.int (1 : Int32)), .val (.int (3 : Int32)), .val (.int v4_88), .val (.int v5_93), .val (.int v6_98), .val (.int v7_103), .unset, .unset, .unset, .unset, .unset, .unset] [(.int p0)] := Own.iloadN r at_54 rfl
    replace r : A0 l Z n0 D h 0 0 56 #[.val (.int p0), .val (.int p1), .val (.int (1 : Int32)), .val (.int (3 : Int32)), .val (.int v4_88), .val (.int v5_93), .val (.int v6_98), .val (.int v7_103), .unset, .unset, .unset, .unset, .unset, .unset] [(.int (4 : Int32)), (.int p0)] := Own.iconst r at_55 rfl
    replace r : A0 l Z n0 D h 0 0 57 #[.val (.int p0), .val (.int p1), .val (.int (1 : Int32)), .val (.int (3 : Int32)), .val (.int v4_88), .val (.int v5_93), .val (.int v6_98), .val (.int v7_103), .unset, .unset, .unset, .unset, .unset, .unset] [(.int (3 : Int32)), (.int (4 : Int32)), (.int p0)] := Own.iloadN r at_56 rfl
    obtain ⟨rv104, h105, hQ106, r⟩ := Own.callS [(.int p0), (.int (4 : Int32)), (.int (3 : Int32))] r at_57 (c1 l Z a0 hw n0 h Zs p0 (4 : Int32) (3 : Int32) (by decide)) (hw _ (List.mem_of_getElem? (i := 0) rfl)) (hw _ (List.mem_of_getElem? (i := 1) rfl)) (hw _ (List.mem_of_getElem? (i := 2) rfl)) (hw _ (List.mem_of_getElem? (i := 3) rfl)) (lenOf pd_0_0 rfl) rfl rfl (W := 0) (Nat.le_of_eq rfl) rfl (by decide) (by decide) (by decide) (by decide) (by decide)
    obtain ⟨rfl, y107, rfl, e_y107⟩ := hQ106
    replace e_y107 : ((((Own.iushrW p0 ((2 : Int32) * (4 : Int32))) &&& (3 : Int32)) % ((3 : Int32) + (1 : Int32))) - (1 : Int32)) = y107 := e_y107.symm
    subst e_y107
    replace r : A0 l Z n0 D h 0 0 60 #[.val (.int p0), .val (.int p1), .val (.int (1 : Int32)), .val (.int (3 : Int32)), .val (.int v4_88), .val (.int v5_93), .val (.int v6_98), .val (.int v7_103), .unset, .unset, .unset, .unset, .unset, .unset] [(.int ((((Own.iushrW p0 ((2 : Int32) * (4 : Int32))) &&& (3 : Int32)) % ((3 : Int32) + (1 : Int32))) - (1 : Int32)))] := r
    obtain ⟨v8_108, e_v8_108⟩ : ∃ z : Int32, z = ((((Own.iushrW p0 ((2 : Int32) * (4 : Int32))) &&& (3 : Int32)) % ((3 : Int32) + (1 : Int32))) - (1 : Int32)) := ⟨_, rfl⟩
    replace r : A0 l Z n0 D h 0 0 60 #[.val (.int p0), .val (.int p1), .val (.int (1 : Int32)), .val (.int (3 : Int32)), .val (.int v4_88), .val (.int v5_93), .val (.int v6_98), .val (.int v7_103), .unset, .unset, .unset, .unset, .unset, .unset] [(.int v8_108)] := by rw [e_v8_108]; exact r
    replace r : A0 l Z n0 D h 0 0 62 #[.val (.int p0), .val (.int p1), .val (.int (1 : Int32)), .val (.int (3 : Int32)), .val (.int v4_88), .val (.int v5_93), .val (.int v6_98), .val (.int v7_103), .val (.int v8_108), .unset, .unset, .unset, .unset, .unset] [] := Own.istore r at_60 rfl
    replace r : A0 l Z n0 D h 0 0 63 #[.val (.int p0), .val (.int p1), .val (.int (1 : Int32)), .val (.int (3 : Int32)), .val (.int v4_88), .val (.int v5_93), .val (.int v6_98), .val (.int v7_103), .val (.int v8_108), .unset, .unset, .unset, .unset, .unset] [(.int p0)] := Own.iloadN r at_62 rfl
    replace r : A0 l Z n0 D h 0 0 64 #[.val (.int p0), .val (.int p1), .val (.int (1 : Int32)), .val (.int (3 : Int32)), .val (.int v4_88), .val (.int v5_93), .val (.int v6_98), .val (.int v7_103), .val (.int v8_108), .unset, .unset, .unset, .unset, .unset] [(.int (5 : Int32)), (.int p0)] := Own.iconst r at_63 rfl
    replace r : A0 l Z n0 D h 0 0 65 #[.val (.int p0), .val (.int p1), .val (.int (1 : Int32)), .val (.int (3 : Int32)), .val (.int v4_88), .val (.int v5_93), .val (.int v6_98), .val (.int v7_103), .val (.int v8_108), .unset, .unset, .unset, .unset, .unset] [(.int (3 : Int32)), (.int (5 : Int32)), (.int p0)] := Own.iloadN r at_64 rfl
    obtain ⟨rv109, h110, hQ111, r⟩ := Own.callS [(.int p0), (.int (5 : Int32)), (.int (3 : Int32))] r at_65 (c1 l Z a0 hw n0 h Zs p0 (5 : Int32) (3 : Int32) (by decide)) (hw _ (List.mem_of_getElem? (i := 0) rfl)) (hw _ (List.mem_of_getElem? (i := 1) rfl)) (hw _ (List.mem_of_getElem? (i := 2) rfl)) (hw _ (List.mem_of_getElem? (i := 3) rfl)) (lenOf pd_0_0 rfl) rfl rfl (W := 0) (Nat.le_of_eq rfl) rfl (by decide) (by decide) (by decide) (by decide) (by decide)
    obtain ⟨rfl, y112, rfl, e_y112⟩ := hQ111
    replace e_y112 : ((((Own.iushrW p0 ((2 : Int32) * (5 : Int32))) &&& (3 : Int32)) % ((3 : Int32) + (1 : Int32))) - (1 : Int32)) = y112 := e_y112.symm
    subst e_y112
    replace r : A0 l Z n0 D h 0 0 68 #[.val (.int p0), .val (.int p1), .val (.int (1 : Int32)), .val (.int (3 : Int32)), .val (.int v4_88), .val (.int v5_93), .val (.int v6_98), .val (.int v7_103), .val (.int v8_108), .unset, .unset, .unset, .unset, .unset] [(.int ((((Own.iushrW p0 ((2 : Int32) * (5 : Int32))) &&& (3 : Int32)) % ((3 : Int32) + (1 : Int32))) - (1 : Int32)))] := r
    obtain ⟨v9_113, e_v9_113⟩ : ∃ z : Int32, z = ((((Own.iushrW p0 ((2 : Int32) * (5 : Int32))) &&& (3 : Int32)) % ((3 : Int32) + (1 : Int32))) - (1 : Int32)) := ⟨_, rfl⟩
    replace r : A0 l Z n0 D h 0 0 68 #[.val (.int p0), .val (.int p1), .val (.int (1 : Int32)), .val (.int (3 : Int32)), .val (.int v4_88), .val (.int v5_93), .val (.int v6_98), .val (.int v7_103), .val (.int v8_108), .unset, .unset, .unset, .unset, .unset] [(.int v9_113)] := by rw [e_v9_113]; exact r
    replace r : A0 l Z n0 D h 0 0 70 #[.val (.int p0), .val (.int p1), .val (.int (1 : Int32)), .val (.int (3 : Int32)), .val (.int v4_88), .val (.int v5_93), .val (.int v6_98), .val (.int v7_103), .val (.int v8_108), .val (.int v9_113), .unset, .unset, .unset, .unset] [] := Own.istore r at_68 rfl
    replace r : A0 l Z n0 D h 0 0 72 #[.val (.int p0), .val (.int p1), .val (.int (1 : Int32)), .val (.int (3 : Int32)), .val (.int v4_88), .val (.int v5_93), .val (.int v6_98), .val (.int v7_103), .val (.int v8_108), .val (.int v9_113), .unset, .unset, .unset, .unset] [(.int (6 : Int32))] := Own.bipush r at_70 rfl
    obtain ⟨h114, ⟨E114, V_b114⟩, r⟩ := Own.newArr r at_72 (hw _ (List.mem_of_getElem? (i := 4) rfl)) (by decide) (cap := 6) (by decide) (by decide) (by decide) (by decide)
    obtain ⟨b114, g114⟩ : ∃ z, z = h.size := ⟨_, rfl⟩
    rw [← g114] at V_b114 r
    have ge_b114 : n0 ≤ b114 := Nat.le_trans Zs (Nat.le_of_eq g114.symm)
    replace Zs := Nat.le_trans Zs E114.1
    replace r : A0 l Z n0 D h114 1 6 74 #[.val (.int p0), .val (.int p1), .val (.int (1 : Int32)), .val (.int (3 : Int32)), .val (.int v4_88), .val (.int v5_93), .val (.int v6_98), .val (.int v7_103), .val (.int v8_108), .val (.int v9_113), .unset, .unset, .unset, .unset] [(.ref b114)] := r
    replace V_b114 : Own.VA Z h114 b114 .int [(.int (0 : Int32)), (.int (0 : Int32)), (.int (0 : Int32)), (.int (0 : Int32)), (.int (0 : Int32)), (.int (0 : Int32))] := V_b114
    replace r : A0 l Z n0 D h114 1 6 75 #[.val (.int p0), .val (.int p1), .val (.int (1 : Int32)), .val (.int (3 : Int32)), .val (.int v4_88), .val (.int v5_93), .val (.int v6_98), .val (.int v7_103), .val (.int v8_108), .val (.int v9_113), .unset, .unset, .unset, .unset] [(.ref b114), (.ref b114)] := Own.dup r at_74 rfl
    replace r : A0 l Z n0 D h114 1 6 76 #[.val (.int p0), .val (.int p1), .val (.int (1 : Int32)), .val (.int (3 : Int32)), .val (.int v4_88), .val (.int v5_93), .val (.int v6_98), .val (.int v7_103), .val (.int v8_108), .val (.int v9_113), .unset, .unset, .unset, .unset] [(.int (0 : Int32)), (.ref b114), (.ref b114)] := Own.iconst r at_75 rfl
    replace r : A0 l Z n0 D h114 1 6 78 #[.val (.int p0), .val (.int p1), .val (.int (1 : Int32)), .val (.int (3 : Int32)), .val (.int v4_88), .val (.int v5_93), .val (.int v6_98), .val (.int v7_103), .val (.int v8_108), .val (.int v9_113), .unset, .unset, .unset, .unset] [(.int v4_88), (.int (0 : Int32)), (.ref b114), (.ref b114)] := Own.iload r at_76 rfl
    obtain ⟨h116, ⟨W115, V_b114⟩, r⟩ := Own.iastore r at_78 V_b114 (by decide) (Nat.le_of_ble_eq_true rfl) ge_b114
    replace r : A0 l Z n0 D h116 1 6 79 #[.val (.int p0), .val (.int p1), .val (.int (1 : Int32)), .val (.int (3 : Int32)), .val (.int v4_88), .val (.int v5_93), .val (.int v6_98), .val (.int v7_103), .val (.int v8_108), .val (.int v9_113), .unset, .unset, .unset, .unset] [(.ref b114)] := r
    replace Zs := Nat.le_trans Zs (Nat.le_of_eq W115.size.symm)
    replace V_b114 : Own.VA Z h116 b114 .int [(.int v4_88), (.int (0 : Int32)), (.int (0 : Int32)), (.int (0 : Int32)), (.int (0 : Int32)), (.int (0 : Int32))] := V_b114
    replace r : A0 l Z n0 D h116 1 6 80 #[.val (.int p0), .val (.int p1), .val (.int (1 : Int32)), .val (.int (3 : Int32)), .val (.int v4_88), .val (.int v5_93), .val (.int v6_98), .val (.int v7_103), .val (.int v8_108), .val (.int v9_113), .unset, .unset, .unset, .unset] [(.ref b114), (.ref b114)] := Own.dup r at_79 rfl
    replace r : A0 l Z n0 D h116 1 6 81 #[.val (.int p0), .val (.int p1), .val (.int (1 : Int32)), .val (.int (3 : Int32)), .val (.int v4_88), .val (.int v5_93), .val (.int v6_98), .val (.int v7_103), .val (.int v8_108), .val (.int v9_113), .unset, .unset, .unset, .unset] [(.int (1 : Int32)), (.ref b114), (.ref b114)] := Own.iconst r at_80 rfl
    replace r : A0 l Z n0 D h116 1 6 83 #[.val (.int p0), .val (.int p1), .val (.int (1 : Int32)), .val (.int (3 : Int32)), .val (.int v4_88), .val (.int v5_93), .val (.int v6_98), .val (.int v7_103), .val (.int v8_108), .val (.int v9_113), .unset, .unset, .unset, .unset] [(.int v5_93), (.int (1 : Int32)), (.ref b114), (.ref b114)] := Own.iload r at_81 rfl
    obtain ⟨h118, ⟨W117, V_b114⟩, r⟩ := Own.iastore r at_83 V_b114 (by decide) (Nat.le_of_ble_eq_true rfl) ge_b114
    replace r : A0 l Z n0 D h118 1 6 84 #[.val (.int p0), .val (.int p1), .val (.int (1 : Int32)), .val (.int (3 : Int32)), .val (.int v4_88), .val (.int v5_93), .val (.int v6_98), .val (.int v7_103), .val (.int v8_108), .val (.int v9_113), .unset, .unset, .unset, .unset] [(.ref b114)] := r
    replace Zs := Nat.le_trans Zs (Nat.le_of_eq W117.size.symm)
    replace V_b114 : Own.VA Z h118 b114 .int [(.int v4_88), (.int v5_93), (.int (0 : Int32)), (.int (0 : Int32)), (.int (0 : Int32)), (.int (0 : Int32))] := V_b114
    replace r : A0 l Z n0 D h118 1 6 85 #[.val (.int p0), .val (.int p1), .val (.int (1 : Int32)), .val (.int (3 : Int32)), .val (.int v4_88), .val (.int v5_93), .val (.int v6_98), .val (.int v7_103), .val (.int v8_108), .val (.int v9_113), .unset, .unset, .unset, .unset] [(.ref b114), (.ref b114)] := Own.dup r at_84 rfl
    replace r : A0 l Z n0 D h118 1 6 86 #[.val (.int p0), .val (.int p1), .val (.int (1 : Int32)), .val (.int (3 : Int32)), .val (.int v4_88), .val (.int v5_93), .val (.int v6_98), .val (.int v7_103), .val (.int v8_108), .val (.int v9_113), .unset, .unset, .unset, .unset] [(.int (2 : Int32)), (.ref b114), (.ref b114)] := Own.iconst r at_85 rfl
    replace r : A0 l Z n0 D h118 1 6 88 #[.val (.int p0), .val (.int p1), .val (.int (1 : Int32)), .val (.int (3 : Int32)), .val (.int v4_88), .val (.int v5_93), .val (.int v6_98), .val (.int v7_103), .val (.int v8_108), .val (.int v9_113), .unset, .unset, .unset, .unset] [(.int v6_98), (.int (2 : Int32)), (.ref b114), (.ref b114)] := Own.iload r at_86 rfl
    obtain ⟨h120, ⟨W119, V_b114⟩, r⟩ := Own.iastore r at_88 V_b114 (by decide) (Nat.le_of_ble_eq_true rfl) ge_b114
    replace r : A0 l Z n0 D h120 1 6 89 #[.val (.int p0), .val (.int p1), .val (.int (1 : Int32)), .val (.int (3 : Int32)), .val (.int v4_88), .val (.int v5_93), .val (.int v6_98), .val (.int v7_103), .val (.int v8_108), .val (.int v9_113), .unset, .unset, .unset, .unset] [(.ref b114)] := r
    replace Zs := Nat.le_trans Zs (Nat.le_of_eq W119.size.symm)
    replace V_b114 : Own.VA Z h120 b114 .int [(.int v4_88), (.int v5_93), (.int v6_98), (.int (0 : Int32)), (.int (0 : Int32)), (.int (0 : Int32))] := V_b114
    replace r : A0 l Z n0 D h120 1 6 90 #[.val (.int p0), .val (.int p1), .val (.int (1 : Int32)), .val (.int (3 : Int32)), .val (.int v4_88), .val (.int v5_93), .val (.int v6_98), .val (.int v7_103), .val (.int v8_108), .val (.int v9_113), .unset, .unset, .unset, .unset] [(.ref b114), (.ref b114)] := Own.dup r at_89 rfl
    replace r : A0 l Z n0 D h120 1 6 91 #[.val (.int p0), .val (.int p1), .val (.int (1 : Int32)), .val (.int (3 : Int32)), .val (.int v4_88), .val (.int v5_93), .val (.int v6_98), .val (.int v7_103), .val (.int v8_108), .val (.int v9_113), .unset, .unset, .unset, .unset] [(.int (3 : Int32)), (.ref b114), (.ref b114)] := Own.iconst r at_90 rfl
    replace r : A0 l Z n0 D h120 1 6 93 #[.val (.int p0), .val (.int p1), .val (.int (1 : Int32)), .val (.int (3 : Int32)), .val (.int v4_88), .val (.int v5_93), .val (.int v6_98), .val (.int v7_103), .val (.int v8_108), .val (.int v9_113), .unset, .unset, .unset, .unset] [(.int v7_103), (.int (3 : Int32)), (.ref b114), (.ref b114)] := Own.iload r at_91 rfl
    obtain ⟨h122, ⟨W121, V_b114⟩, r⟩ := Own.iastore r at_93 V_b114 (by decide) (Nat.le_of_ble_eq_true rfl) ge_b114
    replace r : A0 l Z n0 D h122 1 6 94 #[.val (.int p0), .val (.int p1), .val (.int (1 : Int32)), .val (.int (3 : Int32)), .val (.int v4_88), .val (.int v5_93), .val (.int v6_98), .val (.int v7_103), .val (.int v8_108), .val (.int v9_113), .unset, .unset, .unset, .unset] [(.ref b114)] := r
    replace Zs := Nat.le_trans Zs (Nat.le_of_eq W121.size.symm)
    replace V_b114 : Own.VA Z h122 b114 .int [(.int v4_88), (.int v5_93), (.int v6_98), (.int v7_103), (.int (0 : Int32)), (.int (0 : Int32))] := V_b114
    replace r : A0 l Z n0 D h122 1 6 95 #[.val (.int p0), .val (.int p1), .val (.int (1 : Int32)), .val (.int (3 : Int32)), .val (.int v4_88), .val (.int v5_93), .val (.int v6_98), .val (.int v7_103), .val (.int v8_108), .val (.int v9_113), .unset, .unset, .unset, .unset] [(.ref b114), (.ref b114)] := Own.dup r at_94 rfl
    replace r : A0 l Z n0 D h122 1 6 96 #[.val (.int p0), .val (.int p1), .val (.int (1 : Int32)), .val (.int (3 : Int32)), .val (.int v4_88), .val (.int v5_93), .val (.int v6_98), .val (.int v7_103), .val (.int v8_108), .val (.int v9_113), .unset, .unset, .unset, .unset] [(.int (4 : Int32)), (.ref b114), (.ref b114)] := Own.iconst r at_95 rfl
    replace r : A0 l Z n0 D h122 1 6 98 #[.val (.int p0), .val (.int p1), .val (.int (1 : Int32)), .val (.int (3 : Int32)), .val (.int v4_88), .val (.int v5_93), .val (.int v6_98), .val (.int v7_103), .val (.int v8_108), .val (.int v9_113), .unset, .unset, .unset, .unset] [(.int v8_108), (.int (4 : Int32)), (.ref b114), (.ref b114)] := Own.iload r at_96 rfl
    obtain ⟨h124, ⟨W123, V_b114⟩, r⟩ := Own.iastore r at_98 V_b114 (by decide) (Nat.le_of_ble_eq_true rfl) ge_b114
    replace r : A0 l Z n0 D h124 1 6 99 #[.val (.int p0), .val (.int p1), .val (.int (1 : Int32)), .val (.int (3 : Int32)), .val (.int v4_88), .val (.int v5_93), .val (.int v6_98), .val (.int v7_103), .val (.int v8_108), .val (.int v9_113), .unset, .unset, .unset, .unset] [(.ref b114)] := r
    replace Zs := Nat.le_trans Zs (Nat.le_of_eq W123.size.symm)
    replace V_b114 : Own.VA Z h124 b114 .int [(.int v4_88), (.int v5_93), (.int v6_98), (.int v7_103), (.int v8_108), (.int (0 : Int32))] := V_b114
    replace r : A0 l Z n0 D h124 1 6 100 #[.val (.int p0), .val (.int p1), .val (.int (1 : Int32)), .val (.int (3 : Int32)), .val (.int v4_88), .val (.int v5_93), .val (.int v6_98), .val (.int v7_103), .val (.int v8_108), .val (.int v9_113), .unset, .unset, .unset, .unset] [(.ref b114), (.ref b114)] := Own.dup r at_99 rfl
    replace r : A0 l Z n0 D h124 1 6 101 #[.val (.int p0), .val (.int p1), .val (.int (1 : Int32)), .val (.int (3 : Int32)), .val (.int v4_88), .val (.int v5_93), .val (.int v6_98), .val (.int v7_103), .val (.int v8_108), .val (.int v9_113), .unset, .unset, .unset, .unset] [(.int (5 : Int32)), (.ref b114), (.ref b114)] := Own.iconst r at_100 rfl
    replace r : A0 l Z n0 D h124 1 6 103 #[.val (.int p0), .val (.int p1), .val (.int (1 : Int32)), .val (.int (3 : Int32)), .val (.int v4_88), .val (.int v5_93), .val (.int v6_98), .val (.int v7_103), .val (.int v8_108), .val (.int v9_113), .unset, .unset, .unset, .unset] [(.int v9_113), (.int (5 : Int32)), (.ref b114), (.ref b114)] := Own.iload r at_101 rfl
    obtain ⟨h126, ⟨W125, V_b114⟩, r⟩ := Own.iastore r at_103 V_b114 (by decide) (Nat.le_of_ble_eq_true rfl) ge_b114
    replace r : A0 l Z n0 D h126 1 6 104 #[.val (.int p0), .val (.int p1), .val (.int (1 : Int32)), .val (.int (3 : Int32)), .val (.int v4_88), .val (.int v5_93), .val (.int v6_98), .val (.int v7_103), .val (.int v8_108), .val (.int v9_113), .unset, .unset, .unset, .unset] [(.ref b114)] := r
    replace Zs := Nat.le_trans Zs (Nat.le_of_eq W125.size.symm)
    replace V_b114 : Own.VA Z h126 b114 .int [(.int v4_88), (.int v5_93), (.int v6_98), (.int v7_103), (.int v8_108), (.int v9_113)] := V_b114
    replace r : A0 l Z n0 D h126 1 6 106 #[.val (.int p0), .val (.int p1), .val (.int (1 : Int32)), .val (.int (3 : Int32)), .val (.int v4_88), .val (.int v5_93), .val (.int v6_98), .val (.int v7_103), .val (.int v8_108), .val (.int v9_113), .val (.ref b114), .unset, .unset, .unset] [] := Own.astore r at_104 rfl rfl
    replace r : A0 l Z n0 D h126 1 6 107 #[.val (.int p0), .val (.int p1), .val (.int (1 : Int32)), .val (.int (3 : Int32)), .val (.int v4_88), .val (.int v5_93), .val (.int v6_98), .val (.int v7_103), .val (.int v8_108), .val (.int v9_113), .val (.ref b114), .unset, .unset, .unset] [(.int (3 : Int32))] := Own.iloadN r at_106 rfl
    obtain ⟨h127, ⟨E127, V_b127⟩, r⟩ := Own.newArr r at_107 (hw _ (List.mem_of_getElem? (i := 5) rfl)) (by decide) (cap := 3) (by decide) (by decide) (by decide) (by decide)
    obtain ⟨b127, g127⟩ : ∃ z, z = h126.size := ⟨_, rfl⟩
    rw [← g127] at V_b127 r
    have ge_b127 : n0 ≤ b127 := Nat.le_trans Zs (Nat.le_of_eq g127.symm)
    have ne_b114_b127 : b114 ≠ b127 := Own.ne_lt V_b114.lt g127
    replace V_b114 := V_b114.ext E127
    replace Zs := Nat.le_trans Zs E127.1
    replace r : A0 l Z n0 D h127 2 9 109 #[.val (.int p0), .val (.int p1), .val (.int (1 : Int32)), .val (.int (3 : Int32)), .val (.int v4_88), .val (.int v5_93), .val (.int v6_98), .val (.int v7_103), .val (.int v8_108), .val (.int v9_113), .val (.ref b114), .unset, .unset, .unset] [(.ref b127)] := r
    replace V_b127 : Own.VA Z h127 b127 .boolean [(.int (0 : Int32)), (.int (0 : Int32)), (.int (0 : Int32))] := V_b127
    replace r : A0 l Z n0 D h127 2 9 111 #[.val (.int p0), .val (.int p1), .val (.int (1 : Int32)), .val (.int (3 : Int32)), .val (.int v4_88), .val (.int v5_93), .val (.int v6_98), .val (.int v7_103), .val (.int v8_108), .val (.int v9_113), .val (.ref b114), .val (.ref b127), .unset, .unset] [] := Own.astore r at_109 rfl rfl
    replace r : A0 l Z n0 D h127 2 9 113 #[.val (.int p0), .val (.int p1), .val (.int (1 : Int32)), .val (.int (3 : Int32)), .val (.int v4_88), .val (.int v5_93), .val (.int v6_98), .val (.int v7_103), .val (.int v8_108), .val (.int v9_113), .val (.ref b114), .val (.ref b127), .unset, .unset] [(.ref b127)] := Own.aload r at_111 rfl rfl
    replace r : A0 l Z n0 D h127 2 9 114 #[.val (.int p0), .val (.int p1), .val (.int (1 : Int32)), .val (.int (3 : Int32)), .val (.int v4_88), .val (.int v5_93), .val (.int v6_98), .val (.int v7_103), .val (.int v8_108), .val (.int v9_113), .val (.ref b114), .val (.ref b127), .unset, .unset] [(.int (0 : Int32)), (.ref b127)] := Own.iconst r at_113 rfl
    replace r : A0 l Z n0 D h127 2 9 115 #[.val (.int p0), .val (.int p1), .val (.int (1 : Int32)), .val (.int (3 : Int32)), .val (.int v4_88), .val (.int v5_93), .val (.int v6_98), .val (.int v7_103), .val (.int v8_108), .val (.int v9_113), .val (.ref b114), .val (.ref b127), .unset, .unset] [(.int p1), (.int (0 : Int32)), (.ref b127)] := Own.iloadN r at_114 rfl
    replace r : A0 l Z n0 D h127 2 9 116 #[.val (.int p0), .val (.int p1), .val (.int (1 : Int32)), .val (.int (3 : Int32)), .val (.int v4_88), .val (.int v5_93), .val (.int v6_98), .val (.int v7_103), .val (.int v8_108), .val (.int v9_113), .val (.ref b114), .val (.ref b127), .unset, .unset] [(.int (2 : Int32)), (.int p1), (.int (0 : Int32)), (.ref b127)] := Own.iconst r at_115 rfl
    replace r : A0 l Z n0 D h127 2 9 117 #[.val (.int p0), .val (.int p1), .val (.int (1 : Int32)), .val (.int (3 : Int32)), .val (.int v4_88), .val (.int v5_93), .val (.int v6_98), .val (.int v7_103), .val (.int v8_108), .val (.int v9_113), .val (.ref b114), .val (.ref b127), .unset, .unset] [(.int (p1 &&& (2 : Int32))), (.int (0 : Int32)), (.ref b127)] := Own.iand r at_116
    obtain ⟨m128, e_m128, r⟩ : ∃ (m128 : Int32), m128 = (if (p1 &&& (2 : Int32)) = (0 : Int32) then (0 : Int32) else (1 : Int32)) ∧ A0 l Z n0 D h127 2 9 125 #[.val (.int p0), .val (.int p1), .val (.int (1 : Int32)), .val (.int (3 : Int32)), .val (.int v4_88), .val (.int v5_93), .val (.int v6_98), .val (.int v7_103), .val (.int v8_108), .val (.int v9_113), .val (.ref b114), .val (.ref b127), .unset, .unset] [(.int m128), (.int (0 : Int32)), (.ref b127)] := by
      by_cases br129 : (p1 &&& (2 : Int32)) = (0 : Int32)
      · skip
        replace r : A0 l Z n0 D h127 2 9 124 #[.val (.int p0), .val (.int p1), .val (.int (1 : Int32)), .val (.int (3 : Int32)), .val (.int v4_88), .val (.int v5_93), .val (.int v6_98), .val (.int v7_103), .val (.int v8_108), .val (.int v9_113), .val (.ref b114), .val (.ref b127), .unset, .unset] [(.int (0 : Int32)), (.ref b127)] := Own.ifYes r at_117 ((if0 _ _).trans (teq br129).1) (by decide) (by decide)
        replace r : A0 l Z n0 D h127 2 9 125 #[.val (.int p0), .val (.int p1), .val (.int (1 : Int32)), .val (.int (3 : Int32)), .val (.int v4_88), .val (.int v5_93), .val (.int v6_98), .val (.int v7_103), .val (.int v8_108), .val (.int v9_113), .val (.ref b114), .val (.ref b127), .unset, .unset] [(.int (0 : Int32)), (.int (0 : Int32)), (.ref b127)] := Own.iconst r at_124 rfl
        exact ⟨_, by rw [if_pos br129], r⟩
      · skip
        replace r : A0 l Z n0 D h127 2 9 120 #[.val (.int p0), .val (.int p1), .val (.int (1 : Int32)), .val (.int (3 : Int32)), .val (.int v4_88), .val (.int v5_93), .val (.int v6_98), .val (.int v7_103), .val (.int v8_108), .val (.int v9_113), .val (.ref b114), .val (.ref b127), .unset, .unset] [(.int (0 : Int32)), (.ref b127)] := Own.ifNo r at_117 ((if0 _ _).trans (feq br129).1)
        replace r : A0 l Z n0 D h127 2 9 121 #[.val (.int p0), .val (.int p1), .val (.int (1 : Int32)), .val (.int (3 : Int32)), .val (.int v4_88), .val (.int v5_93), .val (.int v6_98), .val (.int v7_103), .val (.int v8_108), .val (.int v9_113), .val (.ref b114), .val (.ref b127), .unset, .unset] [(.int (1 : Int32)), (.int (0 : Int32)), (.ref b127)] := Own.iconst r at_120 rfl
        replace r : A0 l Z n0 D h127 2 9 125 #[.val (.int p0), .val (.int p1), .val (.int (1 : Int32)), .val (.int (3 : Int32)), .val (.int v4_88), .val (.int v5_93), .val (.int v6_98), .val (.int v7_103), .val (.int v8_108), .val (.int v9_113), .val (.ref b114), .val (.ref b127), .unset, .unset] [(.int (1 : Int32)), (.int (0 : Int32)), (.ref b127)] := Own.goto r at_121 (by decide) (by decide)
        exact ⟨_, by rw [if_neg br129], r⟩
    obtain ⟨h131, ⟨W130, V_b127⟩, r⟩ := Own.zastore r at_125 V_b127 (by decide) (Nat.le_of_ble_eq_true rfl) ge_b127
    replace r : A0 l Z n0 D h131 2 9 126 #[.val (.int p0), .val (.int p1), .val (.int (1 : Int32)), .val (.int (3 : Int32)), .val (.int v4_88), .val (.int v5_93), .val (.int v6_98), .val (.int v7_103), .val (.int v8_108), .val (.int v9_113), .val (.ref b114), .val (.ref b127), .unset, .unset] [] := r
    replace V_b114 := V_b114.other W130 ne_b114_b127
    replace Zs := Nat.le_trans Zs (Nat.le_of_eq W130.size.symm)
    replace V_b127 : Own.VA Z h131 b127 .boolean [(.int (nar .boolean m128)), (.int (0 : Int32)), (.int (0 : Int32))] := V_b127
    replace r : A0 l Z n0 D h131 2 9 128 #[.val (.int p0), .val (.int p1), .val (.int (1 : Int32)), .val (.int (3 : Int32)), .val (.int v4_88), .val (.int v5_93), .val (.int v6_98), .val (.int v7_103), .val (.int v8_108), .val (.int v9_113), .val (.ref b114), .val (.ref b127), .unset, .unset] [(.ref b127)] := Own.aload r at_126 rfl rfl
    replace r : A0 l Z n0 D h131 2 9 129 #[.val (.int p0), .val (.int p1), .val (.int (1 : Int32)), .val (.int (3 : Int32)), .val (.int v4_88), .val (.int v5_93), .val (.int v6_98), .val (.int v7_103), .val (.int v8_108), .val (.int v9_113), .val (.ref b114), .val (.ref b127), .unset, .unset] [(.int (1 : Int32)), (.ref b127)] := Own.iconst r at_128 rfl
    replace r : A0 l Z n0 D h131 2 9 130 #[.val (.int p0), .val (.int p1), .val (.int (1 : Int32)), .val (.int (3 : Int32)), .val (.int v4_88), .val (.int v5_93), .val (.int v6_98), .val (.int v7_103), .val (.int v8_108), .val (.int v9_113), .val (.ref b114), .val (.ref b127), .unset, .unset] [(.int p1), (.int (1 : Int32)), (.ref b127)] := Own.iloadN r at_129 rfl
    replace r : A0 l Z n0 D h131 2 9 131 #[.val (.int p0), .val (.int p1), .val (.int (1 : Int32)), .val (.int (3 : Int32)), .val (.int v4_88), .val (.int v5_93), .val (.int v6_98), .val (.int v7_103), .val (.int v8_108), .val (.int v9_113), .val (.ref b114), .val (.ref b127), .unset, .unset] [(.int (4 : Int32)), (.int p1), (.int (1 : Int32)), (.ref b127)] := Own.iconst r at_130 rfl
    replace r : A0 l Z n0 D h131 2 9 132 #[.val (.int p0), .val (.int p1), .val (.int (1 : Int32)), .val (.int (3 : Int32)), .val (.int v4_88), .val (.int v5_93), .val (.int v6_98), .val (.int v7_103), .val (.int v8_108), .val (.int v9_113), .val (.ref b114), .val (.ref b127), .unset, .unset] [(.int (p1 &&& (4 : Int32))), (.int (1 : Int32)), (.ref b127)] := Own.iand r at_131
    obtain ⟨m132, e_m132, r⟩ : ∃ (m132 : Int32), m132 = (if (p1 &&& (4 : Int32)) = (0 : Int32) then (0 : Int32) else (1 : Int32)) ∧ A0 l Z n0 D h131 2 9 140 #[.val (.int p0), .val (.int p1), .val (.int (1 : Int32)), .val (.int (3 : Int32)), .val (.int v4_88), .val (.int v5_93), .val (.int v6_98), .val (.int v7_103), .val (.int v8_108), .val (.int v9_113), .val (.ref b114), .val (.ref b127), .unset, .unset] [(.int m132), (.int (1 : Int32)), (.ref b127)] := by
      by_cases br133 : (p1 &&& (4 : Int32)) = (0 : Int32)
      · skip
        replace r : A0 l Z n0 D h131 2 9 139 #[.val (.int p0), .val (.int p1), .val (.int (1 : Int32)), .val (.int (3 : Int32)), .val (.int v4_88), .val (.int v5_93), .val (.int v6_98), .val (.int v7_103), .val (.int v8_108), .val (.int v9_113), .val (.ref b114), .val (.ref b127), .unset, .unset] [(.int (1 : Int32)), (.ref b127)] := Own.ifYes r at_132 ((if0 _ _).trans (teq br133).1) (by decide) (by decide)
        replace r : A0 l Z n0 D h131 2 9 140 #[.val (.int p0), .val (.int p1), .val (.int (1 : Int32)), .val (.int (3 : Int32)), .val (.int v4_88), .val (.int v5_93), .val (.int v6_98), .val (.int v7_103), .val (.int v8_108), .val (.int v9_113), .val (.ref b114), .val (.ref b127), .unset, .unset] [(.int (0 : Int32)), (.int (1 : Int32)), (.ref b127)] := Own.iconst r at_139 rfl
        exact ⟨_, by rw [if_pos br133], r⟩
      · skip
        replace r : A0 l Z n0 D h131 2 9 135 #[.val (.int p0), .val (.int p1), .val (.int (1 : Int32)), .val (.int (3 : Int32)), .val (.int v4_88), .val (.int v5_93), .val (.int v6_98), .val (.int v7_103), .val (.int v8_108), .val (.int v9_113), .val (.ref b114), .val (.ref b127), .unset, .unset] [(.int (1 : Int32)), (.ref b127)] := Own.ifNo r at_132 ((if0 _ _).trans (feq br133).1)
        replace r : A0 l Z n0 D h131 2 9 136 #[.val (.int p0), .val (.int p1), .val (.int (1 : Int32)), .val (.int (3 : Int32)), .val (.int v4_88), .val (.int v5_93), .val (.int v6_98), .val (.int v7_103), .val (.int v8_108), .val (.int v9_113), .val (.ref b114), .val (.ref b127), .unset, .unset] [(.int (1 : Int32)), (.int (1 : Int32)), (.ref b127)] := Own.iconst r at_135 rfl
        replace r : A0 l Z n0 D h131 2 9 140 #[.val (.int p0), .val (.int p1), .val (.int (1 : Int32)), .val (.int (3 : Int32)), .val (.int v4_88), .val (.int v5_93), .val (.int v6_98), .val (.int v7_103), .val (.int v8_108), .val (.int v9_113), .val (.ref b114), .val (.ref b127), .unset, .unset] [(.int (1 : Int32)), (.int (1 : Int32)), (.ref b127)] := Own.goto r at_136 (by decide) (by decide)
        exact ⟨_, by rw [if_neg br133], r⟩
    obtain ⟨h135, ⟨W134, V_b127⟩, r⟩ := Own.zastore r at_140 V_b127 (by decide) (Nat.le_of_ble_eq_true rfl) ge_b127
    replace r : A0 l Z n0 D h135 2 9 141 #[.val (.int p0), .val (.int p1), .val (.int (1 : Int32)), .val (.int (3 : Int32)), .val (.int v4_88), .val (.int v5_93), .val (.int v6_98), .val (.int v7_103), .val (.int v8_108), .val (.int v9_113), .val (.ref b114), .val (.ref b127), .unset, .unset] [] := r
    replace V_b114 := V_b114.other W134 ne_b114_b127
    replace Zs := Nat.le_trans Zs (Nat.le_of_eq W134.size.symm)
    replace V_b127 : Own.VA Z h135 b127 .boolean [(.int (nar .boolean m128)), (.int (nar .boolean m132)), (.int (0 : Int32))] := V_b127
    replace r : A0 l Z n0 D h135 2 9 142 #[.val (.int p0), .val (.int p1), .val (.int (1 : Int32)), .val (.int (3 : Int32)), .val (.int v4_88), .val (.int v5_93), .val (.int v6_98), .val (.int v7_103), .val (.int v8_108), .val (.int v9_113), .val (.ref b114), .val (.ref b127), .unset, .unset] [(.int (1 : Int32))] := Own.iloadN r at_141 rfl
    replace r : A0 l Z n0 D h135 2 9 145 #[.val (.int p0), .val (.int p1), .val (.int (1 : Int32)), .val (.int (3 : Int32)), .val (.int v4_88), .val (.int v5_93), .val (.int v6_98), .val (.int v7_103), .val (.int v8_108), .val (.int v9_113), .val (.ref b114), .val (.ref b127), .unset, .unset] [] := Own.ifNo r at_142 ((if0 _ _).trans (feq (by decide : ¬ ((1 : Int32) = (0 : Int32)))).1)
    replace r : A0 l Z n0 D h135 2 9 147 #[.val (.int p0), .val (.int p1), .val (.int (1 : Int32)), .val (.int (3 : Int32)), .val (.int v4_88), .val (.int v5_93), .val (.int v6_98), .val (.int v7_103), .val (.int v8_108), .val (.int v9_113), .val (.ref b114), .val (.ref b127), .unset, .unset] [(.ref b127)] := Own.aload r at_145 rfl rfl
    replace r : A0 l Z n0 D h135 2 9 148 #[.val (.int p0), .val (.int p1), .val (.int (1 : Int32)), .val (.int (3 : Int32)), .val (.int v4_88), .val (.int v5_93), .val (.int v6_98), .val (.int v7_103), .val (.int v8_108), .val (.int v9_113), .val (.ref b114), .val (.ref b127), .unset, .unset] [(.int (2 : Int32)), (.ref b127)] := Own.iconst r at_147 rfl
    replace r : A0 l Z n0 D h135 2 9 149 #[.val (.int p0), .val (.int p1), .val (.int (1 : Int32)), .val (.int (3 : Int32)), .val (.int v4_88), .val (.int v5_93), .val (.int v6_98), .val (.int v7_103), .val (.int v8_108), .val (.int v9_113), .val (.ref b114), .val (.ref b127), .unset, .unset] [(.int p1), (.int (2 : Int32)), (.ref b127)] := Own.iloadN r at_148 rfl
    replace r : A0 l Z n0 D h135 2 9 151 #[.val (.int p0), .val (.int p1), .val (.int (1 : Int32)), .val (.int (3 : Int32)), .val (.int v4_88), .val (.int v5_93), .val (.int v6_98), .val (.int v7_103), .val (.int v8_108), .val (.int v9_113), .val (.ref b114), .val (.ref b127), .unset, .unset] [(.int (8 : Int32)), (.int p1), (.int (2 : Int32)), (.ref b127)] := Own.bipush r at_149 rfl
    replace r : A0 l Z n0 D h135 2 9 152 #[.val (.int p0), .val (.int p1), .val (.int (1 : Int32)), .val (.int (3 : Int32)), .val (.int v4_88), .val (.int v5_93), .val (.int v6_98), .val (.int v7_103), .val (.int v8_108), .val (.int v9_113), .val (.ref b114), .val (.ref b127), .unset, .unset] [(.int (p1 &&& (8 : Int32))), (.int (2 : Int32)), (.ref b127)] := Own.iand r at_151
    obtain ⟨m136, e_m136, r⟩ : ∃ (m136 : Int32), m136 = (if (p1 &&& (8 : Int32)) = (0 : Int32) then (0 : Int32) else (1 : Int32)) ∧ A0 l Z n0 D h135 2 9 160 #[.val (.int p0), .val (.int p1), .val (.int (1 : Int32)), .val (.int (3 : Int32)), .val (.int v4_88), .val (.int v5_93), .val (.int v6_98), .val (.int v7_103), .val (.int v8_108), .val (.int v9_113), .val (.ref b114), .val (.ref b127), .unset, .unset] [(.int m136), (.int (2 : Int32)), (.ref b127)] := by
      by_cases br137 : (p1 &&& (8 : Int32)) = (0 : Int32)
      · skip
        replace r : A0 l Z n0 D h135 2 9 159 #[.val (.int p0), .val (.int p1), .val (.int (1 : Int32)), .val (.int (3 : Int32)), .val (.int v4_88), .val (.int v5_93), .val (.int v6_98), .val (.int v7_103), .val (.int v8_108), .val (.int v9_113), .val (.ref b114), .val (.ref b127), .unset, .unset] [(.int (2 : Int32)), (.ref b127)] := Own.ifYes r at_152 ((if0 _ _).trans (teq br137).1) (by decide) (by decide)
        replace r : A0 l Z n0 D h135 2 9 160 #[.val (.int p0), .val (.int p1), .val (.int (1 : Int32)), .val (.int (3 : Int32)), .val (.int v4_88), .val (.int v5_93), .val (.int v6_98), .val (.int v7_103), .val (.int v8_108), .val (.int v9_113), .val (.ref b114), .val (.ref b127), .unset, .unset] [(.int (0 : Int32)), (.int (2 : Int32)), (.ref b127)] := Own.iconst r at_159 rfl
        exact ⟨_, by rw [if_pos br137], r⟩
      · skip
        replace r : A0 l Z n0 D h135 2 9 155 #[.val (.int p0), .val (.int p1), .val (.int (1 : Int32)), .val (.int (3 : Int32)), .val (.int v4_88), .val (.int v5_93), .val (.int v6_98), .val (.int v7_103), .val (.int v8_108), .val (.int v9_113), .val (.ref b114), .val (.ref b127), .unset, .unset] [(.int (2 : Int32)), (.ref b127)] := Own.ifNo r at_152 ((if0 _ _).trans (feq br137).1)
        replace r : A0 l Z n0 D h135 2 9 156 #[.val (.int p0), .val (.int p1), .val (.int (1 : Int32)), .val (.int (3 : Int32)), .val (.int v4_88), .val (.int v5_93), .val (.int v6_98), .val (.int v7_103), .val (.int v8_108), .val (.int v9_113), .val (.ref b114), .val (.ref b127), .unset, .unset] [(.int (1 : Int32)), (.int (2 : Int32)), (.ref b127)] := Own.iconst r at_155 rfl
        replace r : A0 l Z n0 D h135 2 9 160 #[.val (.int p0), .val (.int p1), .val (.int (1 : Int32)), .val (.int (3 : Int32)), .val (.int v4_88), .val (.int v5_93), .val (.int v6_98), .val (.int v7_103), .val (.int v8_108), .val (.int v9_113), .val (.ref b114), .val (.ref b127), .unset, .unset] [(.int (1 : Int32)), (.int (2 : Int32)), (.ref b127)] := Own.goto r at_156 (by decide) (by decide)
        exact ⟨_, by rw [if_neg br137], r⟩
    obtain ⟨h139, ⟨W138, V_b127⟩, r⟩ := Own.zastore r at_160 V_b127 (by decide) (Nat.le_of_ble_eq_true rfl) ge_b127
    replace r : A0 l Z n0 D h139 2 9 161 #[.val (.int p0), .val (.int p1), .val (.int (1 : Int32)), .val (.int (3 : Int32)), .val (.int v4_88), .val (.int v5_93), .val (.int v6_98), .val (.int v7_103), .val (.int v8_108), .val (.int v9_113), .val (.ref b114), .val (.ref b127), .unset, .unset] [] := r
    replace V_b114 := V_b114.other W138 ne_b114_b127
    replace Zs := Nat.le_trans Zs (Nat.le_of_eq W138.size.symm)
    replace V_b127 : Own.VA Z h139 b127 .boolean [(.int (nar .boolean m128)), (.int (nar .boolean m132)), (.int (nar .boolean m136))] := V_b127
    replace r : A0 l Z n0 D h139 2 9 162 #[.val (.int p0), .val (.int p1), .val (.int (1 : Int32)), .val (.int (3 : Int32)), .val (.int v4_88), .val (.int v5_93), .val (.int v6_98), .val (.int v7_103), .val (.int v8_108), .val (.int v9_113), .val (.ref b114), .val (.ref b127), .unset, .unset] [(.int (1 : Int32))] := Own.iloadN r at_161 rfl
    replace r : A0 l Z n0 D h139 2 9 165 #[.val (.int p0), .val (.int p1), .val (.int (1 : Int32)), .val (.int (3 : Int32)), .val (.int v4_88), .val (.int v5_93), .val (.int v6_98), .val (.int v7_103), .val (.int v8_108), .val (.int v9_113), .val (.ref b114), .val (.ref b127), .unset, .unset] [] := Own.ifNo r at_162 ((if0 _ _).trans (feq (by decide : ¬ ((1 : Int32) = (0 : Int32)))).1)
    replace r : A0 l Z n0 D h139 2 9 166 #[.val (.int p0), .val (.int p1), .val (.int (1 : Int32)), .val (.int (3 : Int32)), .val (.int v4_88), .val (.int v5_93), .val (.int v6_98), .val (.int v7_103), .val (.int v8_108), .val (.int v9_113), .val (.ref b114), .val (.ref b127), .unset, .unset] [(.int (2 : Int32))] := Own.iconst r at_165 rfl
    obtain ⟨h140, ⟨E140, V_b140⟩, r⟩ := Own.newArr r at_166 (hw _ (List.mem_of_getElem? (i := 4) rfl)) (by decide) (cap := 2) (by decide) (by decide) (by decide) (by decide)
    obtain ⟨b140, g140⟩ : ∃ z, z = h139.size := ⟨_, rfl⟩
    rw [← g140] at V_b140 r
    have ge_b140 : n0 ≤ b140 := Nat.le_trans Zs (Nat.le_of_eq g140.symm)
    have ne_b114_b140 : b114 ≠ b140 := Own.ne_lt V_b114.lt g140
    have ne_b127_b140 : b127 ≠ b140 := Own.ne_lt V_b127.lt g140
    replace V_b114 := V_b114.ext E140
    replace V_b127 := V_b127.ext E140
    replace Zs := Nat.le_trans Zs E140.1
    replace r : A0 l Z n0 D h140 3 11 168 #[.val (.int p0), .val (.int p1), .val (.int (1 : Int32)), .val (.int (3 : Int32)), .val (.int v4_88), .val (.int v5_93), .val (.int v6_98), .val (.int v7_103), .val (.int v8_108), .val (.int v9_113), .val (.ref b114), .val (.ref b127), .unset, .unset] [(.ref b140)] := r
    replace V_b140 : Own.VA Z h140 b140 .int [(.int (0 : Int32)), (.int (0 : Int32))] := V_b140
    replace r : A0 l Z n0 D h140 3 11 169 #[.val (.int p0), .val (.int p1), .val (.int (1 : Int32)), .val (.int (3 : Int32)), .val (.int v4_88), .val (.int v5_93), .val (.int v6_98), .val (.int v7_103), .val (.int v8_108), .val (.int v9_113), .val (.ref b114), .val (.ref b127), .unset, .unset] [(.ref b140), (.ref b140)] := Own.dup r at_168 rfl
    replace r : A0 l Z n0 D h140 3 11 170 #[.val (.int p0), .val (.int p1), .val (.int (1 : Int32)), .val (.int (3 : Int32)), .val (.int v4_88), .val (.int v5_93), .val (.int v6_98), .val (.int v7_103), .val (.int v8_108), .val (.int v9_113), .val (.ref b114), .val (.ref b127), .unset, .unset] [(.int (0 : Int32)), (.ref b140), (.ref b140)] := Own.iconst r at_169 rfl
    replace r : A0 l Z n0 D h140 3 11 171 #[.val (.int p0), .val (.int p1), .val (.int (1 : Int32)), .val (.int (3 : Int32)), .val (.int v4_88), .val (.int v5_93), .val (.int v6_98), .val (.int v7_103), .val (.int v8_108), .val (.int v9_113), .val (.ref b114), .val (.ref b127), .unset, .unset] [(.int (0 : Int32)), (.int (0 : Int32)), (.ref b140), (.ref b140)] := Own.iconst r at_170 rfl
    obtain ⟨h142, ⟨W141, V_b140⟩, r⟩ := Own.iastore r at_171 V_b140 (by decide) (Nat.le_of_ble_eq_true rfl) ge_b140
    replace r : A0 l Z n0 D h142 3 11 172 #[.val (.int p0), .val (.int p1), .val (.int (1 : Int32)), .val (.int (3 : Int32)), .val (.int v4_88), .val (.int v5_93), .val (.int v6_98), .val (.int v7_103), .val (.int v8_108), .val (.int v9_113), .val (.ref b114), .val (.ref b127), .unset, .unset] [(.ref b140)] := r
    replace V_b114 := V_b114.other W141 ne_b114_b140
    replace V_b127 := V_b127.other W141 ne_b127_b140
    replace Zs := Nat.le_trans Zs (Nat.le_of_eq W141.size.symm)
    replace V_b140 : Own.VA Z h142 b140 .int [(.int (0 : Int32)), (.int (0 : Int32))] := V_b140
    replace r : A0 l Z n0 D h142 3 11 173 #[.val (.int p0), .val (.int p1), .val (.int (1 : Int32)), .val (.int (3 : Int32)), .val (.int v4_88), .val (.int v5_93), .val (.int v6_98), .val (.int v7_103), .val (.int v8_108), .val (.int v9_113), .val (.ref b114), .val (.ref b127), .unset, .unset] [(.ref b140), (.ref b140)] := Own.dup r at_172 rfl
    replace r : A0 l Z n0 D h142 3 11 174 #[.val (.int p0), .val (.int p1), .val (.int (1 : Int32)), .val (.int (3 : Int32)), .val (.int v4_88), .val (.int v5_93), .val (.int v6_98), .val (.int v7_103), .val (.int v8_108), .val (.int v9_113), .val (.ref b114), .val (.ref b127), .unset, .unset] [(.int (1 : Int32)), (.ref b140), (.ref b140)] := Own.iconst r at_173 rfl
    replace r : A0 l Z n0 D h142 3 11 176 #[.val (.int p0), .val (.int p1), .val (.int (1 : Int32)), .val (.int (3 : Int32)), .val (.int v4_88), .val (.int v5_93), .val (.int v6_98), .val (.int v7_103), .val (.int v8_108), .val (.int v9_113), .val (.ref b114), .val (.ref b127), .unset, .unset] [(.int (65 : Int32)), (.int (1 : Int32)), (.ref b140), (.ref b140)] := Own.bipush r at_174 rfl
    obtain ⟨h144, ⟨W143, V_b140⟩, r⟩ := Own.iastore r at_176 V_b140 (by decide) (Nat.le_of_ble_eq_true rfl) ge_b140
    replace r : A0 l Z n0 D h144 3 11 177 #[.val (.int p0), .val (.int p1), .val (.int (1 : Int32)), .val (.int (3 : Int32)), .val (.int v4_88), .val (.int v5_93), .val (.int v6_98), .val (.int v7_103), .val (.int v8_108), .val (.int v9_113), .val (.ref b114), .val (.ref b127), .unset, .unset] [(.ref b140)] := r
    replace V_b114 := V_b114.other W143 ne_b114_b140
    replace V_b127 := V_b127.other W143 ne_b127_b140
    replace Zs := Nat.le_trans Zs (Nat.le_of_eq W143.size.symm)
    replace V_b140 : Own.VA Z h144 b140 .int [(.int (0 : Int32)), (.int (65 : Int32))] := V_b140
    replace r : A0 l Z n0 D h144 3 11 197 #[.val (.int p0), .val (.int p1), .val (.int (1 : Int32)), .val (.int (3 : Int32)), .val (.int v4_88), .val (.int v5_93), .val (.int v6_98), .val (.int v7_103), .val (.int v8_108), .val (.int v9_113), .val (.ref b114), .val (.ref b127), .unset, .unset] [(.ref b140)] := Own.goto r at_177 (by decide) (by decide)
    replace r : A0 l Z n0 D h144 3 11 199 #[.val (.int p0), .val (.int p1), .val (.int (1 : Int32)), .val (.int (3 : Int32)), .val (.int v4_88), .val (.int v5_93), .val (.int v6_98), .val (.int v7_103), .val (.int v8_108), .val (.int v9_113), .val (.ref b114), .val (.ref b127), .val (.ref b140), .unset] [] := Own.astore r at_197 rfl rfl
    obtain ⟨h145, ⟨E145, X_b145, D145⟩, r⟩ := Own.newObj r at_199 (hw _ (List.mem_of_getElem? (i := 6) rfl)) (hw _ (List.mem_of_getElem? (i := 7) rfl)) (hw _ (List.mem_of_getElem? (i := 8) rfl)) (by decide) (by decide)
    obtain ⟨b145, g145⟩ : ∃ z, z = h144.size := ⟨_, rfl⟩
    rw [← g145] at X_b145 D145 r
    have ge_b145 : n0 ≤ b145 := Nat.le_trans Zs (Nat.le_of_eq g145.symm)
    have ne_b114_b145 : b114 ≠ b145 := Own.ne_lt V_b114.lt g145
    have ne_b127_b145 : b127 ≠ b145 := Own.ne_lt V_b127.lt g145
    have ne_b140_b145 : b140 ≠ b145 := Own.ne_lt V_b140.lt g145
    replace V_b114 := V_b114.ext E145
    replace V_b127 := V_b127.ext E145
    replace V_b140 := V_b140.ext E145
    replace Zs := Nat.le_trans Zs E145.1
    replace r : A0 l Z n0 D h145 4 15 202 #[.val (.int p0), .val (.int p1), .val (.int (1 : Int32)), .val (.int (3 : Int32)), .val (.int v4_88), .val (.int v5_93), .val (.int v6_98), .val (.int v7_103), .val (.int v8_108), .val (.int v9_113), .val (.ref b114), .val (.ref b127), .val (.ref b140), .unset] [(.ref b145)] := r
    have F_starts_b145 : Fld Z h145 b145 "com/example/ref_access_rules/refaccessrules/pattern/Dfa" "starts" "[I" .null := D145 (Or.inr (hw _ (List.mem_of_getElem? (i := 16) rfl))) (ty := (.array .int)) (by decide)
    have F_table_b145 : Fld Z h145 b145 "com/example/ref_access_rules/refaccessrules/pattern/Dfa" "table" "[I" .null := D145 (Or.inr (hw _ (List.mem_of_getElem? (i := 18) rfl))) (ty := (.array .int)) (by decide)
    have F_accepting_b145 : Fld Z h145 b145 "com/example/ref_access_rules/refaccessrules/pattern/Dfa" "accepting" "[Z" .null := D145 (Or.inr (hw _ (List.mem_of_getElem? (i := 20) rfl))) (ty := (.array .boolean)) (by decide)
    have F_distances_b145 : Fld Z h145 b145 "com/example/ref_access_rules/refaccessrules/pattern/Dfa" "distances" "[I" .null := D145 (Or.inr (hw _ (List.mem_of_getElem? (i := 41) rfl))) (ty := (.array .int)) (by decide)
    replace r : A0 l Z n0 D h145 4 15 203 #[.val (.int p0), .val (.int p1), .val (.int (1 : Int32)), .val (.int (3 : Int32)), .val (.int v4_88), .val (.int v5_93), .val (.int v6_98), .val (.int v7_103), .val (.int v8_108), .val (.int v9_113), .val (.ref b114), .val (.ref b127), .val (.ref b140), .unset] [(.ref b145), (.ref b145)] := Own.dup r at_202 rfl
    replace r : A0 l Z n0 D h145 4 15 205 #[.val (.int p0), .val (.int p1), .val (.int (1 : Int32)), .val (.int (3 : Int32)), .val (.int v4_88), .val (.int v5_93), .val (.int v6_98), .val (.int v7_103), .val (.int v8_108), .val (.int v9_113), .val (.ref b114), .val (.ref b127), .val (.ref b140), .unset] [(.ref b140), (.ref b145), (.ref b145)] := Own.aload r at_203 rfl rfl
    replace r : A0 l Z n0 D h145 4 15 207 #[.val (.int p0), .val (.int p1), .val (.int (1 : Int32)), .val (.int (3 : Int32)), .val (.int v4_88), .val (.int v5_93), .val (.int v6_98), .val (.int v7_103), .val (.int v8_108), .val (.int v9_113), .val (.ref b114), .val (.ref b127), .val (.ref b140), .unset] [(.ref b114), (.ref b140), (.ref b145), (.ref b145)] := Own.aload r at_205 rfl rfl
    replace r : A0 l Z n0 D h145 4 15 209 #[.val (.int p0), .val (.int p1), .val (.int (1 : Int32)), .val (.int (3 : Int32)), .val (.int v4_88), .val (.int v5_93), .val (.int v6_98), .val (.int v7_103), .val (.int v8_108), .val (.int v9_113), .val (.ref b114), .val (.ref b127), .val (.ref b140), .unset] [(.ref b127), (.ref b114), (.ref b140), (.ref b145), (.ref b145)] := Own.aload r at_207 rfl rfl
    obtain ⟨t0, ht0, et0⟩ : ∃ t, t < 4 ∧ v4_88 = Own.J t := by rw [e_v4_88]; exact own_cell3 _
    obtain ⟨t1, ht1, et1⟩ : ∃ t, t < 4 ∧ v5_93 = Own.J t := by rw [e_v5_93]; exact own_cell3 _
    obtain ⟨t2, ht2, et2⟩ : ∃ t, t < 4 ∧ v6_98 = Own.J t := by rw [e_v6_98]; exact own_cell3 _
    obtain ⟨t3, ht3, et3⟩ : ∃ t, t < 4 ∧ v7_103 = Own.J t := by rw [e_v7_103]; exact own_cell3 _
    obtain ⟨t4, ht4, et4⟩ : ∃ t, t < 4 ∧ v8_108 = Own.J t := by rw [e_v8_108]; exact own_cell3 _
    obtain ⟨t5, ht5, et5⟩ : ∃ t, t < 4 ∧ v9_113 = Own.J t := by rw [e_v9_113]; exact own_cell3 _
    obtain ⟨w0, hw0, ew0⟩ : ∃ k, k < 2 ∧ nar .boolean m128 = Own.I k := Own.bit01 (Own.ite01 e_m128)
    obtain ⟨w1, hw1, ew1⟩ : ∃ k, k < 2 ∧ nar .boolean m132 = Own.I k := Own.bit01 (Own.ite01 e_m132)
    obtain ⟨w2, hw2, ew2⟩ : ∃ k, k < 2 ∧ nar .boolean m136 = Own.I k := Own.bit01 (Own.ite01 e_m136)
    obtain ⟨d, hm⟩ := own_safe3 [t0, t1, t2, t3, t4, t5] [w0, w1, w2] rfl (by simp; omega) rfl (by simp; omega)
    replace V_b114 : Own.VA Z h145 b114 .int (([t0, t1, t2, t3, t4, t5].map Own.J).map Value.int) := by show Own.VA Z _ _ _ [(.int (Own.J t0)), (.int (Own.J t1)), (.int (Own.J t2)), (.int (Own.J t3)), (.int (Own.J t4)), (.int (Own.J t5))]; rw [← et0, ← et1, ← et2, ← et3, ← et4, ← et5]; exact V_b114
    replace V_b127 : Own.VA Z h145 b127 .boolean (([w0, w1, w2].map Own.I).map Value.int) := by show Own.VA Z _ _ _ [(.int (Own.I w0)), (.int (Own.I w1)), (.int (Own.I w2))]; rw [← ew0, ← ew1, ← ew2]; exact V_b127
    replace V_b140 : Own.VA Z h145 b140 .int ([(0 : Int32), (65 : Int32)].map Value.int) := V_b140
    obtain ⟨rv146, h147, hQ148, r⟩ := Own.callI [(.ref b140), (.ref b114), (.ref b127)] r at_209 (c2 l Z a0 hw n0 h145 Zs b145 b140 b114 b127 _ _ _ _ [t0, t1, t2, t3, t4, t5] [w0, w1, w2] [(0 : Int32), (65 : Int32)] F_starts_b145 F_table_b145 F_accepting_b145 F_distances_b145 X_b145 ge_b145 V_b140 ne_b140_b145 V_b114 ne_b114_b145 V_b127 ne_b127_b145 (by simp; omega) (Nat.le_of_ble_eq_true rfl) (Nat.le_of_ble_eq_true rfl) (by simp; omega) (by decide) d hm) (hw _ (List.mem_of_getElem? (i := 9) rfl)) (hw _ (List.mem_of_getElem? (i := 10) rfl)) (hw _ (List.mem_of_getElem? (i := 8) rfl)) (hw _ (List.mem_of_getElem? (i := 11) rfl)) rfl (lenOf pd_0_1 rfl) rfl rfl (W := 1) (Nat.le_of_eq rfl) rfl (by decide) (by decide) (by decide) (by decide) (by decide)
    obtain ⟨rfl, K149, X_b145, F_starts_b145, F_table_b145, F_accepting_b145, bd, sz1_bd, F_distances_b145, V_bd⟩ := hQ148
    have ge_bd : n0 ≤ bd := Nat.le_trans Zs sz1_bd
    have ne_b114_bd : b114 ≠ bd := Nat.ne_of_lt (Nat.lt_of_lt_of_le V_b114.lt sz1_bd)
    have ne_b127_bd : b127 ≠ bd := Nat.ne_of_lt (Nat.lt_of_lt_of_le V_b127.lt sz1_bd)
    have ne_b140_bd : b140 ≠ bd := Nat.ne_of_lt (Nat.lt_of_lt_of_le V_b140.lt sz1_bd)
    replace V_b114 := V_b114.keep K149 (by simp [ne_b114_b145])
    replace V_b127 := V_b127.keep K149 (by simp [ne_b127_b145])
    replace V_b140 := V_b140.keep K149 (by simp [ne_b140_b145])
    replace Zs := Nat.le_trans Zs K149.1
    replace r : A0 l Z n0 D h147 9 45 212 #[.val (.int p0), .val (.int p1), .val (.int (1 : Int32)), .val (.int (3 : Int32)), .val (.int v4_88), .val (.int v5_93), .val (.int v6_98), .val (.int v7_103), .val (.int v8_108), .val (.int v9_113), .val (.ref b114), .val (.ref b127), .val (.ref b140), .unset] [(.ref b145)] := r
    replace r : A0 l Z n0 D h147 9 45 214 #[.val (.int p0), .val (.int p1), .val (.int (1 : Int32)), .val (.int (3 : Int32)), .val (.int v4_88), .val (.int v5_93), .val (.int v6_98), .val (.int v7_103), .val (.int v8_108), .val (.int v9_113), .val (.ref b114), .val (.ref b127), .val (.ref b140), .val (.ref b145)] [] := Own.astore r at_212 rfl rfl
    replace r : A0 l Z n0 D h147 9 45 215 #[.val (.int p0), .val (.int p1), .val (.int (1 : Int32)), .val (.int (3 : Int32)), .val (.int v4_88), .val (.int v5_93), .val (.int v6_98), .val (.int v7_103), .val (.int v8_108), .val (.int v9_113), .val (.ref b114), .val (.ref b127), .val (.ref b140), .val (.ref b145)] [(.int (1 : Int32))] := Own.iloadN r at_214 rfl
    replace r : A0 l Z n0 D h147 9 45 218 #[.val (.int p0), .val (.int p1), .val (.int (1 : Int32)), .val (.int (3 : Int32)), .val (.int v4_88), .val (.int v5_93), .val (.int v6_98), .val (.int v7_103), .val (.int v8_108), .val (.int v9_113), .val (.ref b114), .val (.ref b127), .val (.ref b140), .val (.ref b145)] [] := Own.ifNo r at_215 ((if0 _ _).trans (feq (by decide : ¬ ((1 : Int32) = (0 : Int32)))).1)
    replace r : A0 l Z n0 D h147 9 45 220 #[.val (.int p0), .val (.int p1), .val (.int (1 : Int32)), .val (.int (3 : Int32)), .val (.int v4_88), .val (.int v5_93), .val (.int v6_98), .val (.int v7_103), .val (.int v8_108), .val (.int v9_113), .val (.ref b114), .val (.ref b127), .val (.ref b140), .val (.ref b145)] [(.ref b145)] := Own.aload r at_218 rfl rfl
    replace r : A0 l Z n0 D h147 9 45 221 #[.val (.int p0), .val (.int p1), .val (.int (1 : Int32)), .val (.int (3 : Int32)), .val (.int v4_88), .val (.int v5_93), .val (.int v6_98), .val (.int v7_103), .val (.int v8_108), .val (.int v9_113), .val (.ref b114), .val (.ref b127), .val (.ref b140), .val (.ref b145)] [(.int (0 : Int32)), (.ref b145)] := Own.iconst r at_220 rfl
    replace r : A0 l Z n0 D h147 9 45 222 #[.val (.int p0), .val (.int p1), .val (.int (1 : Int32)), .val (.int (3 : Int32)), .val (.int v4_88), .val (.int v5_93), .val (.int v6_98), .val (.int v7_103), .val (.int v8_108), .val (.int v9_113), .val (.ref b114), .val (.ref b127), .val (.ref b140), .val (.ref b145)] [(.int (0 : Int32)), (.int (0 : Int32)), (.ref b145)] := Own.iconst r at_221 rfl
    obtain ⟨rv150, h151, hQ152, r⟩ := Own.callV [(.int (0 : Int32)), (.int (0 : Int32))] r at_222 (c8 l Z a0 hw n0 h147 Zs b145 (0 : Int32) (0 : Int32) b140 b114 [(0 : Int32), (65 : Int32)] ([t0, t1, t2, t3, t4, t5].map Own.J) F_starts_b145 F_table_b145 V_b140 V_b114 0 (Own.J t0) ⟨by decide, by decide⟩ rfl) X_b145 (hw _ (List.mem_of_getElem? (i := 42) rfl)) (hw _ (List.mem_of_getElem? (i := 43) rfl)) (Own.nfS (hw _ (List.mem_of_getElem? (i := 45) rfl))) (hw _ (List.mem_of_getElem? (i := 45) rfl)) (hw _ (List.mem_of_getElem? (i := 44) rfl)) (hw _ (List.mem_of_getElem? (i := 8) rfl)) (hw _ (List.mem_of_getElem? (i := 46) rfl)) (lenOf pd_0_2 rfl) rfl rfl (W := 0) (Nat.le_of_eq rfl) rfl (by decide) (by decide) (by decide) (by decide) (by decide)
    obtain ⟨rfl, rfl⟩ := hQ152
    replace r : A0 l Z n0 D h147 9 45 225 #[.val (.int p0), .val (.int p1), .val (.int (1 : Int32)), .val (.int (3 : Int32)), .val (.int v4_88), .val (.int v5_93), .val (.int v6_98), .val (.int v7_103), .val (.int v8_108), .val (.int v9_113), .val (.ref b114), .val (.ref b127), .val (.ref b140), .val (.ref b145)] [(.int (Own.J t0))] := r
    replace r : A0 l Z n0 D h147 9 45 227 #[.val (.int p0), .val (.int p1), .val (.int (1 : Int32)), .val (.int (3 : Int32)), .val (.int v4_88), .val (.int v5_93), .val (.int v6_98), .val (.int v7_103), .val (.int v8_108), .val (.int v9_113), .val (.ref b114), .val (.ref b127), .val (.ref b140), .val (.ref b145)] [(.int v4_88), (.int (Own.J t0))] := Own.iload r at_225 rfl
    replace r : A0 l Z n0 D h147 9 45 230 #[.val (.int p0), .val (.int p1), .val (.int (1 : Int32)), .val (.int (3 : Int32)), .val (.int v4_88), .val (.int v5_93), .val (.int v6_98), .val (.int v7_103), .val (.int v8_108), .val (.int v9_113), .val (.ref b114), .val (.ref b127), .val (.ref b140), .val (.ref b145)] [] := Own.icmpNo r at_227 (teq et0.symm).2
    replace r : A0 l Z n0 D h147 9 45 232 #[.val (.int p0), .val (.int p1), .val (.int (1 : Int32)), .val (.int (3 : Int32)), .val (.int v4_88), .val (.int v5_93), .val (.int v6_98), .val (.int v7_103), .val (.int v8_108), .val (.int v9_113), .val (.ref b114), .val (.ref b127), .val (.ref b140), .val (.ref b145)] [(.ref b145)] := Own.aload r at_230 rfl rfl
    replace r : A0 l Z n0 D h147 9 45 233 #[.val (.int p0), .val (.int p1), .val (.int (1 : Int32)), .val (.int (3 : Int32)), .val (.int v4_88), .val (.int v5_93), .val (.int v6_98), .val (.int v7_103), .val (.int v8_108), .val (.int v9_113), .val (.ref b114), .val (.ref b127), .val (.ref b140), .val (.ref b145)] [(.int (0 : Int32)), (.ref b145)] := Own.iconst r at_232 rfl
    replace r : A0 l Z n0 D h147 9 45 234 #[.val (.int p0), .val (.int p1), .val (.int (1 : Int32)), .val (.int (3 : Int32)), .val (.int v4_88), .val (.int v5_93), .val (.int v6_98), .val (.int v7_103), .val (.int v8_108), .val (.int v9_113), .val (.ref b114), .val (.ref b127), .val (.ref b140), .val (.ref b145)] [(.int (1 : Int32)), (.int (0 : Int32)), (.ref b145)] := Own.iconst r at_233 rfl
    obtain ⟨rv153, h154, hQ155, r⟩ := Own.callV [(.int (0 : Int32)), (.int (1 : Int32))] r at_234 (c8 l Z a0 hw n0 h147 Zs b145 (0 : Int32) (1 : Int32) b140 b114 [(0 : Int32), (65 : Int32)] ([t0, t1, t2, t3, t4, t5].map Own.J) F_starts_b145 F_table_b145 V_b140 V_b114 1 (Own.J t1) ⟨by decide, by decide⟩ rfl) X_b145 (hw _ (List.mem_of_getElem? (i := 42) rfl)) (hw _ (List.mem_of_getElem? (i := 43) rfl)) (Own.nfS (hw _ (List.mem_of_getElem? (i := 45) rfl))) (hw _ (List.mem_of_getElem? (i := 45) rfl)) (hw _ (List.mem_of_getElem? (i := 44) rfl)) (hw _ (List.mem_of_getElem? (i := 8) rfl)) (hw _ (List.mem_of_getElem? (i := 46) rfl)) (lenOf pd_0_2 rfl) rfl rfl (W := 0) (Nat.le_of_eq rfl) rfl (by decide) (by decide) (by decide) (by decide) (by decide)
    obtain ⟨rfl, rfl⟩ := hQ155
    replace r : A0 l Z n0 D h147 9 45 237 #[.val (.int p0), .val (.int p1), .val (.int (1 : Int32)), .val (.int (3 : Int32)), .val (.int v4_88), .val (.int v5_93), .val (.int v6_98), .val (.int v7_103), .val (.int v8_108), .val (.int v9_113), .val (.ref b114), .val (.ref b127), .val (.ref b140), .val (.ref b145)] [(.int (Own.J t1))] := r
    replace r : A0 l Z n0 D h147 9 45 239 #[.val (.int p0), .val (.int p1), .val (.int (1 : Int32)), .val (.int (3 : Int32)), .val (.int v4_88), .val (.int v5_93), .val (.int v6_98), .val (.int v7_103), .val (.int v8_108), .val (.int v9_113), .val (.ref b114), .val (.ref b127), .val (.ref b140), .val (.ref b145)] [(.int v5_93), (.int (Own.J t1))] := Own.iload r at_237 rfl
    replace r : A0 l Z n0 D h147 9 45 242 #[.val (.int p0), .val (.int p1), .val (.int (1 : Int32)), .val (.int (3 : Int32)), .val (.int v4_88), .val (.int v5_93), .val (.int v6_98), .val (.int v7_103), .val (.int v8_108), .val (.int v9_113), .val (.ref b114), .val (.ref b127), .val (.ref b140), .val (.ref b145)] [] := Own.icmpNo r at_239 (teq et1.symm).2
    replace r : A0 l Z n0 D h147 9 45 244 #[.val (.int p0), .val (.int p1), .val (.int (1 : Int32)), .val (.int (3 : Int32)), .val (.int v4_88), .val (.int v5_93), .val (.int v6_98), .val (.int v7_103), .val (.int v8_108), .val (.int v9_113), .val (.ref b114), .val (.ref b127), .val (.ref b140), .val (.ref b145)] [(.ref b145)] := Own.aload r at_242 rfl rfl
    replace r : A0 l Z n0 D h147 9 45 245 #[.val (.int p0), .val (.int p1), .val (.int (1 : Int32)), .val (.int (3 : Int32)), .val (.int v4_88), .val (.int v5_93), .val (.int v6_98), .val (.int v7_103), .val (.int v8_108), .val (.int v9_113), .val (.ref b114), .val (.ref b127), .val (.ref b140), .val (.ref b145)] [(.int (1 : Int32)), (.ref b145)] := Own.iconst r at_244 rfl
    replace r : A0 l Z n0 D h147 9 45 246 #[.val (.int p0), .val (.int p1), .val (.int (1 : Int32)), .val (.int (3 : Int32)), .val (.int v4_88), .val (.int v5_93), .val (.int v6_98), .val (.int v7_103), .val (.int v8_108), .val (.int v9_113), .val (.ref b114), .val (.ref b127), .val (.ref b140), .val (.ref b145)] [(.int (0 : Int32)), (.int (1 : Int32)), (.ref b145)] := Own.iconst r at_245 rfl
    obtain ⟨rv156, h157, hQ158, r⟩ := Own.callV [(.int (1 : Int32)), (.int (0 : Int32))] r at_246 (c8 l Z a0 hw n0 h147 Zs b145 (1 : Int32) (0 : Int32) b140 b114 [(0 : Int32), (65 : Int32)] ([t0, t1, t2, t3, t4, t5].map Own.J) F_starts_b145 F_table_b145 V_b140 V_b114 2 (Own.J t2) ⟨by decide, by decide⟩ rfl) X_b145 (hw _ (List.mem_of_getElem? (i := 42) rfl)) (hw _ (List.mem_of_getElem? (i := 43) rfl)) (Own.nfS (hw _ (List.mem_of_getElem? (i := 45) rfl))) (hw _ (List.mem_of_getElem? (i := 45) rfl)) (hw _ (List.mem_of_getElem? (i := 44) rfl)) (hw _ (List.mem_of_getElem? (i := 8) rfl)) (hw _ (List.mem_of_getElem? (i := 46) rfl)) (lenOf pd_0_2 rfl) rfl rfl (W := 0) (Nat.le_of_eq rfl) rfl (by decide) (by decide) (by decide) (by decide) (by decide)
    obtain ⟨rfl, rfl⟩ := hQ158
    replace r : A0 l Z n0 D h147 9 45 249 #[.val (.int p0), .val (.int p1), .val (.int (1 : Int32)), .val (.int (3 : Int32)), .val (.int v4_88), .val (.int v5_93), .val (.int v6_98), .val (.int v7_103), .val (.int v8_108), .val (.int v9_113), .val (.ref b114), .val (.ref b127), .val (.ref b140), .val (.ref b145)] [(.int (Own.J t2))] := r
    replace r : A0 l Z n0 D h147 9 45 251 #[.val (.int p0), .val (.int p1), .val (.int (1 : Int32)), .val (.int (3 : Int32)), .val (.int v4_88), .val (.int v5_93), .val (.int v6_98), .val (.int v7_103), .val (.int v8_108), .val (.int v9_113), .val (.ref b114), .val (.ref b127), .val (.ref b140), .val (.ref b145)] [(.int v6_98), (.int (Own.J t2))] := Own.iload r at_249 rfl
    replace r : A0 l Z n0 D h147 9 45 254 #[.val (.int p0), .val (.int p1), .val (.int (1 : Int32)), .val (.int (3 : Int32)), .val (.int v4_88), .val (.int v5_93), .val (.int v6_98), .val (.int v7_103), .val (.int v8_108), .val (.int v9_113), .val (.ref b114), .val (.ref b127), .val (.ref b140), .val (.ref b145)] [] := Own.icmpNo r at_251 (teq et2.symm).2
    replace r : A0 l Z n0 D h147 9 45 256 #[.val (.int p0), .val (.int p1), .val (.int (1 : Int32)), .val (.int (3 : Int32)), .val (.int v4_88), .val (.int v5_93), .val (.int v6_98), .val (.int v7_103), .val (.int v8_108), .val (.int v9_113), .val (.ref b114), .val (.ref b127), .val (.ref b140), .val (.ref b145)] [(.ref b145)] := Own.aload r at_254 rfl rfl
    replace r : A0 l Z n0 D h147 9 45 257 #[.val (.int p0), .val (.int p1), .val (.int (1 : Int32)), .val (.int (3 : Int32)), .val (.int v4_88), .val (.int v5_93), .val (.int v6_98), .val (.int v7_103), .val (.int v8_108), .val (.int v9_113), .val (.ref b114), .val (.ref b127), .val (.ref b140), .val (.ref b145)] [(.int (1 : Int32)), (.ref b145)] := Own.iconst r at_256 rfl
    replace r : A0 l Z n0 D h147 9 45 258 #[.val (.int p0), .val (.int p1), .val (.int (1 : Int32)), .val (.int (3 : Int32)), .val (.int v4_88), .val (.int v5_93), .val (.int v6_98), .val (.int v7_103), .val (.int v8_108), .val (.int v9_113), .val (.ref b114), .val (.ref b127), .val (.ref b140), .val (.ref b145)] [(.int (1 : Int32)), (.int (1 : Int32)), (.ref b145)] := Own.iconst r at_257 rfl
    obtain ⟨rv159, h160, hQ161, r⟩ := Own.callV [(.int (1 : Int32)), (.int (1 : Int32))] r at_258 (c8 l Z a0 hw n0 h147 Zs b145 (1 : Int32) (1 : Int32) b140 b114 [(0 : Int32), (65 : Int32)] ([t0, t1, t2, t3, t4, t5].map Own.J) F_starts_b145 F_table_b145 V_b140 V_b114 3 (Own.J t3) ⟨by decide, by decide⟩ rfl) X_b145 (hw _ (List.mem_of_getElem? (i := 42) rfl)) (hw _ (List.mem_of_getElem? (i := 43) rfl)) (Own.nfS (hw _ (List.mem_of_getElem? (i := 45) rfl))) (hw _ (List.mem_of_getElem? (i := 45) rfl)) (hw _ (List.mem_of_getElem? (i := 44) rfl)) (hw _ (List.mem_of_getElem? (i := 8) rfl)) (hw _ (List.mem_of_getElem? (i := 46) rfl)) (lenOf pd_0_2 rfl) rfl rfl (W := 0) (Nat.le_of_eq rfl) rfl (by decide) (by decide) (by decide) (by decide) (by decide)
    obtain ⟨rfl, rfl⟩ := hQ161
    replace r : A0 l Z n0 D h147 9 45 261 #[.val (.int p0), .val (.int p1), .val (.int (1 : Int32)), .val (.int (3 : Int32)), .val (.int v4_88), .val (.int v5_93), .val (.int v6_98), .val (.int v7_103), .val (.int v8_108), .val (.int v9_113), .val (.ref b114), .val (.ref b127), .val (.ref b140), .val (.ref b145)] [(.int (Own.J t3))] := r
    replace r : A0 l Z n0 D h147 9 45 263 #[.val (.int p0), .val (.int p1), .val (.int (1 : Int32)), .val (.int (3 : Int32)), .val (.int v4_88), .val (.int v5_93), .val (.int v6_98), .val (.int v7_103), .val (.int v8_108), .val (.int v9_113), .val (.ref b114), .val (.ref b127), .val (.ref b140), .val (.ref b145)] [(.int v7_103), (.int (Own.J t3))] := Own.iload r at_261 rfl
    replace r : A0 l Z n0 D h147 9 45 266 #[.val (.int p0), .val (.int p1), .val (.int (1 : Int32)), .val (.int (3 : Int32)), .val (.int v4_88), .val (.int v5_93), .val (.int v6_98), .val (.int v7_103), .val (.int v8_108), .val (.int v9_113), .val (.ref b114), .val (.ref b127), .val (.ref b140), .val (.ref b145)] [] := Own.icmpNo r at_263 (teq et3.symm).2
    replace r : A0 l Z n0 D h147 9 45 268 #[.val (.int p0), .val (.int p1), .val (.int (1 : Int32)), .val (.int (3 : Int32)), .val (.int v4_88), .val (.int v5_93), .val (.int v6_98), .val (.int v7_103), .val (.int v8_108), .val (.int v9_113), .val (.ref b114), .val (.ref b127), .val (.ref b140), .val (.ref b145)] [(.ref b145)] := Own.aload r at_266 rfl rfl
    replace r : A0 l Z n0 D h147 9 45 269 #[.val (.int p0), .val (.int p1), .val (.int (1 : Int32)), .val (.int (3 : Int32)), .val (.int v4_88), .val (.int v5_93), .val (.int v6_98), .val (.int v7_103), .val (.int v8_108), .val (.int v9_113), .val (.ref b114), .val (.ref b127), .val (.ref b140), .val (.ref b145)] [(.int (2 : Int32)), (.ref b145)] := Own.iconst r at_268 rfl
    replace r : A0 l Z n0 D h147 9 45 270 #[.val (.int p0), .val (.int p1), .val (.int (1 : Int32)), .val (.int (3 : Int32)), .val (.int v4_88), .val (.int v5_93), .val (.int v6_98), .val (.int v7_103), .val (.int v8_108), .val (.int v9_113), .val (.ref b114), .val (.ref b127), .val (.ref b140), .val (.ref b145)] [(.int (0 : Int32)), (.int (2 : Int32)), (.ref b145)] := Own.iconst r at_269 rfl
    obtain ⟨rv162, h163, hQ164, r⟩ := Own.callV [(.int (2 : Int32)), (.int (0 : Int32))] r at_270 (c8 l Z a0 hw n0 h147 Zs b145 (2 : Int32) (0 : Int32) b140 b114 [(0 : Int32), (65 : Int32)] ([t0, t1, t2, t3, t4, t5].map Own.J) F_starts_b145 F_table_b145 V_b140 V_b114 4 (Own.J t4) ⟨by decide, by decide⟩ rfl) X_b145 (hw _ (List.mem_of_getElem? (i := 42) rfl)) (hw _ (List.mem_of_getElem? (i := 43) rfl)) (Own.nfS (hw _ (List.mem_of_getElem? (i := 45) rfl))) (hw _ (List.mem_of_getElem? (i := 45) rfl)) (hw _ (List.mem_of_getElem? (i := 44) rfl)) (hw _ (List.mem_of_getElem? (i := 8) rfl)) (hw _ (List.mem_of_getElem? (i := 46) rfl)) (lenOf pd_0_2 rfl) rfl rfl (W := 0) (Nat.le_of_eq rfl) rfl (by decide) (by decide) (by decide) (by decide) (by decide)
    obtain ⟨rfl, rfl⟩ := hQ164
    replace r : A0 l Z n0 D h147 9 45 273 #[.val (.int p0), .val (.int p1), .val (.int (1 : Int32)), .val (.int (3 : Int32)), .val (.int v4_88), .val (.int v5_93), .val (.int v6_98), .val (.int v7_103), .val (.int v8_108), .val (.int v9_113), .val (.ref b114), .val (.ref b127), .val (.ref b140), .val (.ref b145)] [(.int (Own.J t4))] := r
    replace r : A0 l Z n0 D h147 9 45 275 #[.val (.int p0), .val (.int p1), .val (.int (1 : Int32)), .val (.int (3 : Int32)), .val (.int v4_88), .val (.int v5_93), .val (.int v6_98), .val (.int v7_103), .val (.int v8_108), .val (.int v9_113), .val (.ref b114), .val (.ref b127), .val (.ref b140), .val (.ref b145)] [(.int v8_108), (.int (Own.J t4))] := Own.iload r at_273 rfl
    replace r : A0 l Z n0 D h147 9 45 278 #[.val (.int p0), .val (.int p1), .val (.int (1 : Int32)), .val (.int (3 : Int32)), .val (.int v4_88), .val (.int v5_93), .val (.int v6_98), .val (.int v7_103), .val (.int v8_108), .val (.int v9_113), .val (.ref b114), .val (.ref b127), .val (.ref b140), .val (.ref b145)] [] := Own.icmpNo r at_275 (teq et4.symm).2
    replace r : A0 l Z n0 D h147 9 45 280 #[.val (.int p0), .val (.int p1), .val (.int (1 : Int32)), .val (.int (3 : Int32)), .val (.int v4_88), .val (.int v5_93), .val (.int v6_98), .val (.int v7_103), .val (.int v8_108), .val (.int v9_113), .val (.ref b114), .val (.ref b127), .val (.ref b140), .val (.ref b145)] [(.ref b145)] := Own.aload r at_278 rfl rfl
    replace r : A0 l Z n0 D h147 9 45 281 #[.val (.int p0), .val (.int p1), .val (.int (1 : Int32)), .val (.int (3 : Int32)), .val (.int v4_88), .val (.int v5_93), .val (.int v6_98), .val (.int v7_103), .val (.int v8_108), .val (.int v9_113), .val (.ref b114), .val (.ref b127), .val (.ref b140), .val (.ref b145)] [(.int (2 : Int32)), (.ref b145)] := Own.iconst r at_280 rfl
    replace r : A0 l Z n0 D h147 9 45 282 #[.val (.int p0), .val (.int p1), .val (.int (1 : Int32)), .val (.int (3 : Int32)), .val (.int v4_88), .val (.int v5_93), .val (.int v6_98), .val (.int v7_103), .val (.int v8_108), .val (.int v9_113), .val (.ref b114), .val (.ref b127), .val (.ref b140), .val (.ref b145)] [(.int (1 : Int32)), (.int (2 : Int32)), (.ref b145)] := Own.iconst r at_281 rfl
    obtain ⟨rv165, h166, hQ167, r⟩ := Own.callV [(.int (2 : Int32)), (.int (1 : Int32))] r at_282 (c8 l Z a0 hw n0 h147 Zs b145 (2 : Int32) (1 : Int32) b140 b114 [(0 : Int32), (65 : Int32)] ([t0, t1, t2, t3, t4, t5].map Own.J) F_starts_b145 F_table_b145 V_b140 V_b114 5 (Own.J t5) ⟨by decide, by decide⟩ rfl) X_b145 (hw _ (List.mem_of_getElem? (i := 42) rfl)) (hw _ (List.mem_of_getElem? (i := 43) rfl)) (Own.nfS (hw _ (List.mem_of_getElem? (i := 45) rfl))) (hw _ (List.mem_of_getElem? (i := 45) rfl)) (hw _ (List.mem_of_getElem? (i := 44) rfl)) (hw _ (List.mem_of_getElem? (i := 8) rfl)) (hw _ (List.mem_of_getElem? (i := 46) rfl)) (lenOf pd_0_2 rfl) rfl rfl (W := 0) (Nat.le_of_eq rfl) rfl (by decide) (by decide) (by decide) (by decide) (by decide)
    obtain ⟨rfl, rfl⟩ := hQ167
    replace r : A0 l Z n0 D h147 9 45 285 #[.val (.int p0), .val (.int p1), .val (.int (1 : Int32)), .val (.int (3 : Int32)), .val (.int v4_88), .val (.int v5_93), .val (.int v6_98), .val (.int v7_103), .val (.int v8_108), .val (.int v9_113), .val (.ref b114), .val (.ref b127), .val (.ref b140), .val (.ref b145)] [(.int (Own.J t5))] := r
    replace r : A0 l Z n0 D h147 9 45 287 #[.val (.int p0), .val (.int p1), .val (.int (1 : Int32)), .val (.int (3 : Int32)), .val (.int v4_88), .val (.int v5_93), .val (.int v6_98), .val (.int v7_103), .val (.int v8_108), .val (.int v9_113), .val (.ref b114), .val (.ref b127), .val (.ref b140), .val (.ref b145)] [(.int v9_113), (.int (Own.J t5))] := Own.iload r at_285 rfl
    replace r : A0 l Z n0 D h147 9 45 290 #[.val (.int p0), .val (.int p1), .val (.int (1 : Int32)), .val (.int (3 : Int32)), .val (.int v4_88), .val (.int v5_93), .val (.int v6_98), .val (.int v7_103), .val (.int v8_108), .val (.int v9_113), .val (.ref b114), .val (.ref b127), .val (.ref b140), .val (.ref b145)] [] := Own.icmpNo r at_287 (teq et5.symm).2
    replace r : A0 l Z n0 D h147 9 45 291 #[.val (.int p0), .val (.int p1), .val (.int (1 : Int32)), .val (.int (3 : Int32)), .val (.int v4_88), .val (.int v5_93), .val (.int v6_98), .val (.int v7_103), .val (.int v8_108), .val (.int v9_113), .val (.ref b114), .val (.ref b127), .val (.ref b140), .val (.ref b145)] [(.int (1 : Int32))] := Own.iconst r at_290 rfl
    replace r : A0 l Z n0 D h147 9 45 295 #[.val (.int p0), .val (.int p1), .val (.int (1 : Int32)), .val (.int (3 : Int32)), .val (.int v4_88), .val (.int v5_93), .val (.int v6_98), .val (.int v7_103), .val (.int v8_108), .val (.int v9_113), .val (.ref b114), .val (.ref b127), .val (.ref b140), .val (.ref b145)] [(.int (1 : Int32))] := Own.goto r at_291 (by decide) (by decide)
    exact ⟨_, _, (Own.Rch.retZ (y := x) (bytes := code) (mx := maxLocals) r at_295 (by decide)).more (by decide) (by decide), rfl⟩
set_option maxRecDepth 65536 in
set_option maxHeartbeats 40000000 in
theorem comes_1 {Post : Tables → Env → Array Value → State → Outcome → State → Prop} (hpost : ∀ tb e args s v u, (limb_1_1.after args s (.returned v) u = true ∧ limb_1_2.after args s (.returned v) u = true ∧ True) → FrameEnd s (.returned v) u (Jvm.fieldLocs frame_1_writes args s ++ Jvm.arrayLocs frame_1_arrays args s ++ Jvm.staticLocs frame_1_statics s) 32 192 → Post tb e args s (.returned v) u) :
    ArmFor flags0 classFile x code maxLocals ret World_1 tables_1 room_1 Calls_1 rest_1 Pre_1 Post := by
  intro l hfl _ _ p e ha hc hk s m args below hf hA hF happ hP
  obtain ⟨hcalls, hrest, hpre⟩ := hP
  obtain ⟨-, -, -, hnamed, -, -, -, hat⟩ := (Spec.applies_iff hf).mp happ
  obtain ⟨hg, hn⟩ := and_e (Cond.before_iff.mp (show (Jvm.Cond.and given_1 narrow_1).before args s = true from hpre))
  obtain ⟨g1, g2⟩ := and_e hg
  obtain ⟨g3, g4⟩ := and_e g2
  obtain ⟨w0, w1, rfl⟩ : ∃ w0 w1 : Value, args = #[w0, w1] := by
    have hs : args.size = 2 := by simpa [Cond.value, given_1] using g1
    obtain ⟨L⟩ := args
    match L, hs with
    | [w0, w1], _ => exact ⟨w0, w1, rfl⟩
  have hw := fun d (hd : d ∈ tables_1) => atoms_spec (ws := Jvm.Cond.code x code maxLocals ret :: tables_1) hat d (List.mem_cons_of_mem _ hd)
  have hfit : Fit s := fun {y c} hc i hi => by
    obtain ⟨ha, rfl⟩ := Array.getElem?_eq_some_iff.mp hc
    have q := List.all_eq_true.mp ((Array.all_eq_true_iff_forall_mem.mp hF) _ (Array.getElem_mem ha)) i (List.mem_range.mpr hi)
    simpa [Array.getElem?_eq_getElem hi] using q
  obtain ⟨i0, ei0⟩ := is_v g3
  obtain rfl : w0 = (.int i0) := Option.some.inj ei0
  obtain ⟨i1, ei1⟩ := is_v g4
  obtain rfl : w1 = (.int i1) := Option.some.inj ei1
  obtain ⟨n, o, h1, h2, h3, _, L, rfl, ⟨N, rfl⟩, hq⟩ := (c0 l s _ hw s.heap.size s.heap (Nat.le_refl _) i0 i1) tables_1 p e ha hc hk s m _ below hf ((Spec.applies_iff_loose hf).mp happ).1 ⟨rfl, State.Warmed39.refl s, rfl⟩ trivial
  refine ⟨n, _, h1, h2, h3, hpost _ _ _ _ _ _ ⟨Cond.after_iff.mpr rfl, Cond.after_iff.mpr (eq_i res_at (Term.int_eval (1)) rfl), trivial⟩ ⟨hq.1, hq.2.1, (hq.2.2.sift fun y hy => Or.inr (N y hy)).mono (by decide) (by decide)⟩⟩
theorem main_1_1 : Claimed_1_1 := comes_1 fun _ _ _ _ _ _ h hF => ⟨h.1, hF⟩
theorem main_1_2 : Claimed_1_2 := comes_1 fun _ _ _ _ _ _ h hF => ⟨h.2.1, hF⟩
end Jvm.Pilot.@@N@@
namespace Jvm.Pilot.@@N@@
open Jvm Jvm.ClassFile Sem Op Lib Jvm.Free Jvm.Stand Jvm.Pilot.@@N@@.Jvm.D
/-! MADE BY PROGRAM (witnessworld.py) out of the Statement's table words and the real class files: 14 classes; the members and pool entries that the words name. The judged class is class 1, her method 1. -/
namespace start1
open Jvm.ClassFile
def u (s : String) : CpInfo := .utf8 (stringToUtf16 s)
/-- a pool by its gaps: so many unusable entries, then the entry; so many at the end -/
def gap : Nat → List CpInfo → List CpInfo
  | 0, r => r
  | n + 1, r => .unusable :: gap n r
def poolList (es : List (Nat × CpInfo)) (last : Nat) : List CpInfo := es.foldr (fun e r => gap e.1 (e.2 :: r)) (gap last [])
def pool (es : List (Nat × CpInfo)) (last : Nat) : Array CpInfo := ⟨poolList es last⟩
def fileOf (pool : Array CpInfo) (this : Nat) (attrs : Array Attribute := #[]) (ms : Array MethodInfo := #[]) (fl : Nat := 33) (sup : Nat := 0) (ifs : Array Nat := #[]) (fds : Array FieldInfo := #[]) : ClassFile where
  minorVersion := 0
  majorVersion := 65
  constantPool := pool
  accessFlags := fl
  thisClass := this
  superClass := sup
  interfaces := ifs
  fields := fds
  methods := ms
  attributes := attrs
def plain (name : String) (sup : Option ClassId) : Class where
  name := name
  kind := .ordinary
  loader := none
  accessFlags := 33
  super := sup
  interfaces := #[]
  cf := none
  fields := #[]
  methods := #[]
  instanceTypes := #[]
  staticTypes := #[]
  resolved := #[]
  callSites := []
  init := .initialized
  statics := none
  mirror := none

def pool0 : Array CpInfo := pool [(5, u "<init>"), (0, u "()V"), (1, .class_ 10), (1, u "java/lang/Object")] 113

def k0c0 : Code := { maxStack := 0, maxLocals := 1, code := object_method_1_code, exceptionTable := #[], attributes := #[] }
def k0m0 : Method := { name := "<init>", desc := "()V", sig := { parameters := [], returnType := none }, accessFlags := 1, code := some k0c0 }
/-- java/lang/Object -/
def k0 : Class := { plain "java/lang/Object" none with
  accessFlags := 33
  interfaces := #[]
  cf := some (fileOf pool0 8 #[] #[{ accessFlags := 1, nameIndex := 5, descriptorIndex := 6, attributes := #[] }] 33 0 #[] #[])
  fields := #[]
  methods := #[k0m0]
  instanceTypes := #[]
  staticTypes := #[]
  resolved := Array.replicate 124 none
  statics := none }

def pool1 : Array CpInfo := pool [(2, .class_ 4), (1, u "java/lang/Object"), (0, u "<init>"), (0, u "()V"), (0, .methodref 8 9), (0, .class_ 10), (0, .nameAndType 11 12), (0, u "com/example/ref_access_rules/refaccessrules/pattern/DfaNextPinLaw"), (0, u "cell"), (0, u "(III)I"), (0, .class_ 14), (0, u "com/example/ref_access_rules/refaccessrules/pattern/Dfa"), (0, .methodref 13 16), (0, .nameAndType 5 17), (0, u "([I[I[Z)V"), (0, .methodref 13 19), (0, .nameAndType 20 21), (0, u "next"), (0, u "(II)I"), (2, u "law"), (0, u "(II)Z")] 7

def k1m0 : Method := { name := "<init>", desc := "()V", sig := { parameters := [], returnType := none }, accessFlags := 1, code := none }
def k1c1 : Code := { maxStack := 5, maxLocals := 14, code := code, exceptionTable := #[], attributes := #[] }
def k1m1 : Method := { name := "law", desc := "(II)Z", sig := { parameters := [.int, .int], returnType := some .boolean }, accessFlags := 9, code := some k1c1 }
def k1c2 : Code := { maxStack := 3, maxLocals := 3, code := method_3_code, exceptionTable := #[], attributes := #[] }
def k1m2 : Method := { name := "cell", desc := "(III)I", sig := { parameters := [.int, .int, .int], returnType := some .int }, accessFlags := 10, code := some k1c2 }
/-- com/example/ref_access_rules/refaccessrules/pattern/DfaNextPinLaw -/
def k1 : Class := { plain "com/example/ref_access_rules/refaccessrules/pattern/DfaNextPinLaw" (some 0) with
  accessFlags := 49
  interfaces := #[]
  cf := some (fileOf pool1 8 #[] #[{ accessFlags := 1, nameIndex := 5, descriptorIndex := 6, attributes := #[] }, { accessFlags := 9, nameIndex := 24, descriptorIndex := 25, attributes := #[] }, { accessFlags := 10, nameIndex := 11, descriptorIndex := 12, attributes := #[] }] 49 2 #[] #[])
  fields := #[]
  methods := #[k1m0, k1m1, k1m2]
  instanceTypes := #[]
  staticTypes := #[]
  resolved := Array.replicate 33 none
  statics := none }

def pool2 : Array CpInfo := pool [(1, .methodref 2 3), (0, .class_ 4), (0, .nameAndType 5 6), (0, u "java/lang/Object"), (0, u "<init>"), (0, u "()V"), (0, .fieldref 8 9), (0, .class_ 10), (0, .nameAndType 11 12), (0, u "com/example/ref_access_rules/refaccessrules/pattern/Dfa"), (0, u "starts"), (0, u "[I"), (0, .fieldref 8 14), (0, .nameAndType 15 12), (0, u "table"), (0, .fieldref 8 17), (0, .nameAndType 18 19), (0, u "accepting"), (0, u "[Z"), (0, .methodref 8 21), (0, .nameAndType 22 23), (0, u "distancesToAccepting"), (0, u "()[I"), (0, .fieldref 8 25), (0, .nameAndType 26 12), (0, u "distances"), (0, .methodref 28 29), (0, .class_ 30), (0, .nameAndType 31 32), (0, u "java/util/Arrays"), (0, u "copyOf"), (0, u "([II)[I"), (0, .methodref 28 34), (0, .nameAndType 35 36), (0, u "fill"), (0, u "([II)V"), (27, u "next"), (0, u "(II)I"), (9, u "([I[I[Z)V")] 14

def k2c0 : Code := { maxStack := 2, maxLocals := 4, code := prog_20_method_1_code, exceptionTable := #[], attributes := #[] }
def k2m0 : Method := { name := "<init>", desc := "([I[I[Z)V", sig := { parameters := [(.array .int), (.array .int), (.array .boolean)], returnType := none }, accessFlags := 0, code := some k2c0 }
def k2c1 : Code := { maxStack := 6, maxLocals := 11, code := prog_20_method_2_code, exceptionTable := #[], attributes := #[] }
def k2m1 : Method := { name := "distancesToAccepting", desc := "()[I", sig := { parameters := [], returnType := some (.array .int) }, accessFlags := 2, code := some k2c1 }
def k2c2 : Code := { maxStack := 3, maxLocals := 3, code := prog_20_method_9_code, exceptionTable := #[], attributes := #[] }
def k2m2 : Method := { name := "next", desc := "(II)I", sig := { parameters := [.int, .int], returnType := some .int }, accessFlags := 0, code := some k2c2 }
/-- com/example/ref_access_rules/refaccessrules/pattern/Dfa -/
def k2 : Class := { plain "com/example/ref_access_rules/refaccessrules/pattern/Dfa" (some 0) with
  accessFlags := 32
  interfaces := #[]
  cf := some (fileOf pool2 8 #[] #[{ accessFlags := 0, nameIndex := 5, descriptorIndex := 75, attributes := #[] }, { accessFlags := 2, nameIndex := 22, descriptorIndex := 23, attributes := #[] }, { accessFlags := 0, nameIndex := 64, descriptorIndex := 65, attributes := #[] }] 32 2 #[] #[{ accessFlags := 18, nameIndex := 11, descriptorIndex := 12, attributes := #[] }, { accessFlags := 18, nameIndex := 15, descriptorIndex := 12, attributes := #[] }, { accessFlags := 18, nameIndex := 18, descriptorIndex := 19, attributes := #[] }, { accessFlags := 18, nameIndex := 26, descriptorIndex := 12, attributes := #[] }])
  fields := #[{ name := "starts", type := (.array .int), accessFlags := 18, slot := 0, constantValue := 0 }, { name := "table", type := (.array .int), accessFlags := 18, slot := 1, constantValue := 0 }, { name := "accepting", type := (.array .boolean), accessFlags := 18, slot := 2, constantValue := 0 }, { name := "distances", type := (.array .int), accessFlags := 18, slot := 3, constantValue := 0 }]
  methods := #[k2m0, k2m1, k2m2]
  instanceTypes := #[(.array .int), (.array .int), (.array .boolean), (.array .int)]
  staticTypes := #[]
  resolved := Array.replicate 90 none
  statics := none }

def pool3 : Array CpInfo := pool [(2, .class_ 4), (1, u "java/lang/Object"), (0, u "<init>"), (0, u "()V"), (7, .class_ 16), (1, u "java/util/Arrays"), (57, .class_ 76), (1, u "java/util/Arrays$NaturalOrder"), (36, .class_ 115), (1, u "java/util/Arrays$LegacyMergeSort"), (1, u "Z"), (32, .methodref 151 152), (0, .class_ 153), (0, .nameAndType 154 155), (0, u "java/lang/System"), (0, u "arraycopy"), (0, u "(Ljava/lang/Object;ILjava/lang/Object;II)V"), (146, u "copyOf"), (1, .methodref 305 306), (0, .class_ 307), (0, .nameAndType 308 309), (0, u "java/lang/Math"), (0, u "min"), (0, u "(II)I"), (65, .class_ 376), (0, u "java/util/Arrays$ArrayList"), (68, u "$assertionsDisabled"), (269, u "MIN_ARRAY_SORT_GRAN"), (0, u "I"), (2, u "INSERTIONSORT_THRESHOLD"), (120, u "fill"), (4, u "([II)V"), (25, u "([II)[I"), (103, .class_ 976), (0, u "java/util/Arrays$ArrayItr")] 52

def k3m0 : Method := { name := "<init>", desc := "()V", sig := { parameters := [], returnType := none }, accessFlags := 2, code := none }
def k3c1 : Code := { maxStack := 3, maxLocals := 4, code := jdk_65_method_103_code, exceptionTable := #[], attributes := #[] }
def k3m1 : Method := { name := "fill", desc := "([II)V", sig := { parameters := [(.array .int), .int], returnType := none }, accessFlags := 9, code := some k3c1 }
def k3c2 : Code := { maxStack := 6, maxLocals := 3, code := jdk_65_method_123_code, exceptionTable := #[], attributes := #[] }
def k3m2 : Method := { name := "copyOf", desc := "([II)[I", sig := { parameters := [(.array .int), .int], returnType := some (.array .int) }, accessFlags := 9, code := some k3c2 }
/-- java/util/Arrays -/
def k3 : Class := { plain "java/util/Arrays" (some 0) with
  accessFlags := 49
  interfaces := #[]
  cf := some (fileOf pool3 14 #[.nestMembers #[975, 375, 113, 74]] #[{ accessFlags := 2, nameIndex := 5, descriptorIndex := 6, attributes := #[] }, { accessFlags := 9, nameIndex := 840, descriptorIndex := 845, attributes := #[] }, { accessFlags := 9, nameIndex := 302, descriptorIndex := 871, attributes := #[] }] 49 2 #[] #[{ accessFlags := 26, nameIndex := 715, descriptorIndex := 716, attributes := #[] }, { accessFlags := 26, nameIndex := 719, descriptorIndex := 716, attributes := #[] }, { accessFlags := 4120, nameIndex := 445, descriptorIndex := 117, attributes := #[] }])
  fields := #[{ name := "MIN_ARRAY_SORT_GRAN", type := .int, accessFlags := 26, slot := 0, constantValue := 0 }, { name := "INSERTIONSORT_THRESHOLD", type := .int, accessFlags := 26, slot := 1, constantValue := 0 }, { name := "$assertionsDisabled", type := .boolean, accessFlags := 4120, slot := 2, constantValue := 0 }]
  methods := #[k3m0, k3m1, k3m2]
  instanceTypes := #[]
  staticTypes := #[.int, .int, .boolean]
  resolved := Array.replicate 1029 none
  statics := none }

def pool4 : Array CpInfo := pool [(1, .class_ 2), (0, u "java/lang/Math"), (1, .class_ 6), (1, u "java/lang/Object"), (0, u "<init>"), (0, u "()V"), (89, .class_ 100), (1, u "java/lang/Math$RandomNumberGeneratorHolder"), (71, u "negativeZeroFloatBits"), (0, u "J"), (2, u "negativeZeroDoubleBits"), (24, u "min"), (43, u "$assertionsDisabled"), (0, u "Z"), (88, u "(II)I"), (2, u "twoToTheDoubleScaleDown"), (0, u "D"), (4, u "twoToTheDoubleScaleUp"), (9, u "E"), (3, u "PI"), (2, u "TAU"), (2, u "DEGREES_TO_RADIANS"), (0, u "RADIANS_TO_DEGREES")] 94

def k4m0 : Method := { name := "<init>", desc := "()V", sig := { parameters := [], returnType := none }, accessFlags := 2, code := none }
def k4c1 : Code := { maxStack := 2, maxLocals := 2, code := jdk_29_method_69_code, exceptionTable := #[], attributes := #[] }
def k4m1 : Method := { name := "min", desc := "(II)I", sig := { parameters := [.int, .int], returnType := some .int }, accessFlags := 9, code := some k4c1 }
/-- java/lang/Math -/
def k4 : Class := { plain "java/lang/Math" (some 0) with
  accessFlags := 49
  interfaces := #[]
  cf := some (fileOf pool4 1 #[.nestMembers #[98]] #[{ accessFlags := 2, nameIndex := 7, descriptorIndex := 8, attributes := #[] }, { accessFlags := 9, nameIndex := 201, descriptorIndex := 335, attributes := #[] }] 49 4 #[] #[{ accessFlags := 25, nameIndex := 354, descriptorIndex := 339, attributes := #[] }, { accessFlags := 25, nameIndex := 358, descriptorIndex := 339, attributes := #[] }, { accessFlags := 25, nameIndex := 361, descriptorIndex := 339, attributes := #[] }, { accessFlags := 26, nameIndex := 364, descriptorIndex := 339, attributes := #[] }, { accessFlags := 26, nameIndex := 365, descriptorIndex := 339, attributes := #[] }, { accessFlags := 26, nameIndex := 172, descriptorIndex := 173, attributes := #[] }, { accessFlags := 26, nameIndex := 176, descriptorIndex := 173, attributes := #[] }, { accessFlags := 8, nameIndex := 344, descriptorIndex := 339, attributes := #[] }, { accessFlags := 8, nameIndex := 338, descriptorIndex := 339, attributes := #[] }, { accessFlags := 4120, nameIndex := 245, descriptorIndex := 246, attributes := #[] }])
  fields := #[{ name := "E", type := .double, accessFlags := 25, slot := 0, constantValue := 0 }, { name := "PI", type := .double, accessFlags := 25, slot := 1, constantValue := 0 }, { name := "TAU", type := .double, accessFlags := 25, slot := 2, constantValue := 0 }, { name := "DEGREES_TO_RADIANS", type := .double, accessFlags := 26, slot := 3, constantValue := 0 }, { name := "RADIANS_TO_DEGREES", type := .double, accessFlags := 26, slot := 4, constantValue := 0 }, { name := "negativeZeroFloatBits", type := .long, accessFlags := 26, slot := 5, constantValue := 0 }, { name := "negativeZeroDoubleBits", type := .long, accessFlags := 26, slot := 6, constantValue := 0 }, { name := "twoToTheDoubleScaleUp", type := .double, accessFlags := 8, slot := 7, constantValue := 0 }, { name := "twoToTheDoubleScaleDown", type := .double, accessFlags := 8, slot := 8, constantValue := 0 }, { name := "$assertionsDisabled", type := .boolean, accessFlags := 4120, slot := 9, constantValue := 0 }]
  methods := #[k4m0, k4m1]
  instanceTypes := #[]
  staticTypes := #[.double, .double, .double, .double, .double, .long, .long, .double, .double, .boolean]
  resolved := Array.replicate 460 none
  statics := none }

def pool5 : Array CpInfo := pool [(2, .class_ 4), (1, u "java/lang/Object"), (0, u "<init>"), (0, u "()V"), (1, .class_ 10), (1, u "java/lang/System"), (0, u "allowSecurityManager"), (0, u "I"), (16, u "cons"), (0, u "Ljava/io/Console;"), (77, .class_ 110), (1, u "java/lang/System$CallersHolder"), (43, u "initialErrStream"), (0, u "Ljava/io/PrintStream;"), (19, u "security"), (0, u "Ljava/lang/SecurityManager;"), (31, .class_ 209), (0, u "java/lang/System$1"), (7, u "props"), (0, u "Ljava/util/Properties;"), (2, u "lineSeparator"), (0, u "Ljava/lang/String;"), (96, .class_ 321), (1, u "java/lang/System$LoggerFinder"), (5, .class_ 328), (0, u "java/lang/System$Logger"), (67, u "err"), (2, u "out"), (91, u "notSupportedJnuEncoding"), (15, u "in"), (17, u "initialIn"), (0, u "Ljava/io/InputStream;"), (35, u "bootLayer"), (0, u "Ljava/lang/ModuleLayer;"), (99, .class_ 664), (0, u "java/lang/System$2"), (9, u "NEVER"), (2, u "MAYBE"), (49, u "arraycopy"), (0, u "(Ljava/lang/Object;ILjava/lang/Object;II)V"), (72, .class_ 802), (0, u "java/lang/System$Logger$Level")] 31

def k5m0 : Method := { name := "<init>", desc := "()V", sig := { parameters := [], returnType := none }, accessFlags := 2, code := none }
def k5m1 : Method := { name := "arraycopy", desc := "(Ljava/lang/Object;ILjava/lang/Object;II)V", sig := { parameters := [(.object "java/lang/Object"), .int, (.object "java/lang/Object"), .int, .int], returnType := none }, accessFlags := 265, code := none }
/-- java/lang/System -/
def k5 : Class := { plain "java/lang/System" (some 0) with
  accessFlags := 49
  interfaces := #[]
  cf := some (fileOf pool5 8 #[.nestMembers #[319, 327, 801, 108, 663, 208]] #[{ accessFlags := 2, nameIndex := 5, descriptorIndex := 6, attributes := #[] }, { accessFlags := 265, nameIndex := 727, descriptorIndex := 728, attributes := #[] }] 49 2 #[] #[{ accessFlags := 25, nameIndex := 507, descriptorIndex := 526, attributes := #[] }, { accessFlags := 25, nameIndex := 399, descriptorIndex := 155, attributes := #[] }, { accessFlags := 25, nameIndex := 396, descriptorIndex := 155, attributes := #[] }, { accessFlags := 10, nameIndex := 525, descriptorIndex := 526, attributes := #[] }, { accessFlags := 26, nameIndex := 674, descriptorIndex := 12, attributes := #[] }, { accessFlags := 26, nameIndex := 677, descriptorIndex := 12, attributes := #[] }, { accessFlags := 10, nameIndex := 11, descriptorIndex := 12, attributes := #[] }, { accessFlags := 74, nameIndex := 175, descriptorIndex := 176, attributes := #[] }, { accessFlags := 10, nameIndex := 491, descriptorIndex := 222, attributes := #[] }, { accessFlags := 74, nameIndex := 29, descriptorIndex := 30, attributes := #[] }, { accessFlags := 74, nameIndex := 154, descriptorIndex := 155, attributes := #[] }, { accessFlags := 10, nameIndex := 217, descriptorIndex := 218, attributes := #[] }, { accessFlags := 10, nameIndex := 221, descriptorIndex := 222, attributes := #[] }, { accessFlags := 8, nameIndex := 562, descriptorIndex := 563, attributes := #[] }])
  fields := #[{ name := "in", type := (.object "java/io/InputStream"), accessFlags := 25, slot := 0, constantValue := 0 }, { name := "out", type := (.object "java/io/PrintStream"), accessFlags := 25, slot := 1, constantValue := 0 }, { name := "err", type := (.object "java/io/PrintStream"), accessFlags := 25, slot := 2, constantValue := 0 }, { name := "initialIn", type := (.object "java/io/InputStream"), accessFlags := 10, slot := 3, constantValue := 0 }, { name := "NEVER", type := .int, accessFlags := 26, slot := 4, constantValue := 0 }, { name := "MAYBE", type := .int, accessFlags := 26, slot := 5, constantValue := 0 }, { name := "allowSecurityManager", type := .int, accessFlags := 10, slot := 6, constantValue := 0 }, { name := "security", type := (.object "java/lang/SecurityManager"), accessFlags := 74, slot := 7, constantValue := 0 }, { name := "notSupportedJnuEncoding", type := (.object "java/lang/String"), accessFlags := 10, slot := 8, constantValue := 0 }, { name := "cons", type := (.object "java/io/Console"), accessFlags := 74, slot := 9, constantValue := 0 }, { name := "initialErrStream", type := (.object "java/io/PrintStream"), accessFlags := 74, slot := 10, constantValue := 0 }, { name := "props", type := (.object "java/util/Properties"), accessFlags := 10, slot := 11, constantValue := 0 }, { name := "lineSeparator", type := (.object "java/lang/String"), accessFlags := 10, slot := 12, constantValue := 0 }, { name := "bootLayer", type := (.object "java/lang/ModuleLayer"), accessFlags := 8, slot := 13, constantValue := 0 }]
  methods := #[k5m0, k5m1]
  instanceTypes := #[]
  staticTypes := #[(.object "java/io/InputStream"), (.object "java/io/PrintStream"), (.object "java/io/PrintStream"), (.object "java/io/InputStream"), .int, .int, .int, (.object "java/lang/SecurityManager"), (.object "java/lang/String"), (.object "java/io/Console"), (.object "java/io/PrintStream"), (.object "java/util/Properties"), (.object "java/lang/String"), (.object "java/lang/ModuleLayer")]
  resolved := Array.replicate 834 none
  statics := none }

def pool6 : Array CpInfo := pool [(1, u "java/lang/Cloneable"), (0, .class_ 1), (0, u "java/lang/Object"), (0, .class_ 3)] 3

/-- java/lang/Cloneable -/
def k6 : Class := { plain "java/lang/Cloneable" (some 0) with
  accessFlags := 1537
  interfaces := #[]
  cf := some (fileOf pool6 2 #[] #[] 1537 4 #[] #[])
  fields := #[]
  methods := #[]
  instanceTypes := #[]
  staticTypes := #[]
  resolved := Array.replicate 8 none
  statics := none }

def pool7 : Array CpInfo := pool [(1, u "java/io/Serializable"), (0, .class_ 1), (0, u "java/lang/Object"), (0, .class_ 3)] 3

/-- java/io/Serializable -/
def k7 : Class := { plain "java/io/Serializable" (some 0) with
  accessFlags := 1537
  interfaces := #[]
  cf := some (fileOf pool7 2 #[] #[] 1537 4 #[] #[])
  fields := #[]
  methods := #[]
  instanceTypes := #[]
  staticTypes := #[]
  resolved := Array.replicate 8 none
  statics := none }

/-- the primitive boolean -/
def k8 : Class := { plain "boolean" none with kind := .primitive 'Z', accessFlags := 0x411 }
/-- [Z -/
def k9 : Class := { plain "[Z" (some 0) with kind := .array 8 .boolean, interfaces := #[6, 7], accessFlags := 1041 }

/-- the primitive byte -/
def k10 : Class := { plain "byte" none with kind := .primitive 'B', accessFlags := 0x411 }
/-- [B -/
def k11 : Class := { plain "[B" (some 0) with kind := .array 10 .byte, interfaces := #[6, 7], accessFlags := 1041 }

/-- the primitive int -/
def k12 : Class := { plain "int" none with kind := .primitive 'I', accessFlags := 0x411 }
/-- [I -/
def k13 : Class := { plain "[I" (some 0) with kind := .array 12 .int, interfaces := #[6, 7], accessFlags := 1041 }

def heap : Heap := #[]
def classes : Array Class := #[k0, k1, k2, k3, k4, k5, k6, k7, k8, k9, k10, k11, k12, k13]
def interned : List (Array UInt16 × Addr) := []
def slotsUsed : Nat := 0
def theMethod : MethodId := ⟨1, 1⟩
def args0 : Array Value := #[.int 5, .int 5]
def aboutOver (below : List Frame) : State where
  vm := { classes := classes, interned := interned.toArray }
  heap := heap
  slotsUsed := slotsUsed
  threads := #[{ frames := .invoking theMethod args0 :: below }]
def below0 : List Frame := [.native { method := ⟨0, 0⟩, args := #[] }]
def about1 : State := aboutOver below0
def p0 : Program := .bare "" "" ""
def e0 : Env := launch0.env 0 0 0
theorem w_frames : about1.frames = Frame.invoking theMethod args0 :: below0 := rfl
set_option maxRecDepth 65536 in
theorem w_args : argsFit about1.vm theMethod args0 = true := by decide +kernel
set_option maxRecDepth 65536 in
theorem w_heap : heapFits about1 = true := by decide +kernel
set_option maxRecDepth 65536 in
theorem w_runnable : about1.curStatus? = some .runnable := by decide +kernel
set_option maxRecDepth 65536 in
theorem w_alone : about1.alone = true := by decide +kernel
set_option maxRecDepth 65536 in
theorem w_named : about1.methodNamed? x = some theMethod := by decide +kernel
set_option maxRecDepth 65536 in
theorem w_hears : about1.hears theMethod below0 = true := by decide +kernel
set_option maxRecDepth 65536 in
theorem w_ripe : about1.ripe theMethod args0 below0 = true := by decide +kernel
theorem w_running : about1.status = .running := rfl
set_option maxRecDepth 65536 in
theorem w_room : about1.hasRoom e0.platform room_1 = true :=
  launch0.hasRoom_least _ room_1 (by decide +kernel) (by decide +kernel) (by decide +kernel) (by decide +kernel) (by decide +kernel) (by decide +kernel)
theorem allAtoms_all (ts : List Jvm.Cond) (a : Array Jvm.Value) (st : Jvm.State) : (allAtoms ts).before a st = ts.all (fun c => c.before a st) := by
  induction ts with
  | nil => rfl
  | cons c t ih =>
    show (Jvm.Cond.and c (allAtoms t)).before a st = _
    rw [Jvm.Cond.before_and, ih, List.all_cons]
def words1 : List Jvm.Cond := Jvm.Cond.code x code maxLocals ret :: tables_1
/-- a 'code' word, met by the world's own term for the bytes: nothing is compared byte by byte -/
theorem code_word {y : MethodName} {bytes : ByteArray} {mx : Nat} {rt : Option FieldType} {a : Array Value} {s : State} {m : MethodId} {meth : Method} {c : Code} (h1 : s.methodNamed? y = some m) (h2 : s.vm.method? m = some meth) (h3 : meth.code = some c) (h4 : c.code = bytes)
    (h5 : (c.maxLocals == mx && c.exceptionTable.isEmpty && decide (c.maxStack ≤ mostOperands) && decide (meth.sig.returnType = rt) && !meth.locks && decide (parseMethodDescriptor y.desc = some meth.sig)) = true) : (Jvm.Cond.code y bytes mx rt).before a s = true := by
  simp only [Bool.and_eq_true, beq_iff_eq, Bool.not_eq_true', decide_eq_true_eq] at h5
  obtain ⟨⟨⟨⟨⟨g1, g2⟩, g3⟩, g4⟩, g5⟩, g6⟩ := h5
  simp [Cond.before, Cond.holds, Cond.value, h1, h2, h3, h4, g1, g2, g3, g4, g5, g6]
def isCode : Jvm.Cond → Bool
  | .code _ _ _ _ => true
  | _ => false
theorem all_split {L : List Jvm.Cond} {P : Jvm.Cond → Bool} (h1 : L.all (fun c => isCode c || P c) = true) (h2 : ∀ c ∈ L.filter isCode, P c = true) : L.all P = true := by
  refine List.all_eq_true.mpr fun c hc => ?_
  have h := List.all_eq_true.mp h1 c hc
  rcases Bool.eq_false_or_eq_true (isCode c) with hi | hi
  · exact h2 c (List.mem_filter.mpr ⟨hc, hi⟩)
  · simpa [hi] using h
set_option maxRecDepth 65536 in
theorem w_c0 : (Jvm.Cond.code x code maxLocals ret).before args0 about1 = true := code_word (m := ⟨1, 1⟩) (meth := k1m1) (c := k1c1) (by decide +kernel) rfl rfl rfl (by decide +kernel)
set_option maxRecDepth 65536 in
theorem w_c1 : (Jvm.Cond.code ({ cls := "com/example/ref_access_rules/refaccessrules/pattern/DfaNextPinLaw", name := "cell", desc := "(III)I" } : Jvm.MethodName) method_3_code (3 : Nat) (Option.some Jvm.ClassFile.FieldType.int)).before args0 about1 = true := code_word (m := ⟨1, 2⟩) (meth := k1m2) (c := k1c2) (by decide +kernel) rfl rfl rfl (by decide +kernel)
set_option maxRecDepth 65536 in
theorem w_c2 : (Jvm.Cond.code ({ cls := "com/example/ref_access_rules/refaccessrules/pattern/Dfa", name := "<init>", desc := "([I[I[Z)V" } : Jvm.MethodName) prog_20_method_1_code (4 : Nat) (Option.none : Option Jvm.ClassFile.FieldType)).before args0 about1 = true := code_word (m := ⟨2, 0⟩) (meth := k2m0) (c := k2c0) (by decide +kernel) rfl rfl rfl (by decide +kernel)
set_option maxRecDepth 65536 in
theorem w_c3 : (Jvm.Cond.code ({ cls := "java/lang/Object", name := "<init>", desc := "()V" } : Jvm.MethodName) object_method_1_code (1 : Nat) (Option.none : Option Jvm.ClassFile.FieldType)).before args0 about1 = true := code_word (m := ⟨0, 0⟩) (meth := k0m0) (c := k0c0) (by decide +kernel) rfl rfl rfl (by decide +kernel)
set_option maxRecDepth 65536 in
theorem w_c4 : (Jvm.Cond.code ({ cls := "com/example/ref_access_rules/refaccessrules/pattern/Dfa", name := "distancesToAccepting", desc := "()[I" } : Jvm.MethodName) prog_20_method_2_code (11 : Nat) (Option.some (Jvm.ClassFile.FieldType.array Jvm.ClassFile.FieldType.int))).before args0 about1 = true := code_word (m := ⟨2, 1⟩) (meth := k2m1) (c := k2c1) (by decide +kernel) rfl rfl rfl (by decide +kernel)
set_option maxRecDepth 65536 in
theorem w_c5 : (Jvm.Cond.code ({ cls := "java/util/Arrays", name := "copyOf", desc := "([II)[I" } : Jvm.MethodName) jdk_65_method_123_code (3 : Nat) (Option.some (Jvm.ClassFile.FieldType.array Jvm.ClassFile.FieldType.int))).before args0 about1 = true := code_word (m := ⟨3, 2⟩) (meth := k3m2) (c := k3c2) (by decide +kernel) rfl rfl rfl (by decide +kernel)
set_option maxRecDepth 65536 in
theorem w_c6 : (Jvm.Cond.code ({ cls := "java/lang/Math", name := "min", desc := "(II)I" } : Jvm.MethodName) jdk_29_method_69_code (2 : Nat) (Option.some Jvm.ClassFile.FieldType.int)).before args0 about1 = true := code_word (m := ⟨4, 1⟩) (meth := k4m1) (c := k4c1) (by decide +kernel) rfl rfl rfl (by decide +kernel)
set_option maxRecDepth 65536 in
theorem w_c7 : (Jvm.Cond.code ({ cls := "java/util/Arrays", name := "fill", desc := "([II)V" } : Jvm.MethodName) jdk_65_method_103_code (4 : Nat) (Option.none : Option Jvm.ClassFile.FieldType)).before args0 about1 = true := code_word (m := ⟨3, 1⟩) (meth := k3m1) (c := k3c1) (by decide +kernel) rfl rfl rfl (by decide +kernel)
set_option maxRecDepth 65536 in
theorem w_c8 : (Jvm.Cond.code ({ cls := "com/example/ref_access_rules/refaccessrules/pattern/Dfa", name := "next", desc := "(II)I" } : Jvm.MethodName) prog_20_method_9_code (3 : Nat) (Option.some Jvm.ClassFile.FieldType.int)).before args0 about1 = true := code_word (m := ⟨2, 2⟩) (meth := k2m2) (c := k2c2) (by decide +kernel) rfl rfl rfl (by decide +kernel)
def codes1 : List Jvm.Cond := [Jvm.Cond.code x code maxLocals ret, Jvm.Cond.code ({ cls := "com/example/ref_access_rules/refaccessrules/pattern/DfaNextPinLaw", name := "cell", desc := "(III)I" } : Jvm.MethodName) method_3_code (3 : Nat) (Option.some Jvm.ClassFile.FieldType.int), Jvm.Cond.code ({ cls := "com/example/ref_access_rules/refaccessrules/pattern/Dfa", name := "<init>", desc := "([I[I[Z)V" } : Jvm.MethodName) prog_20_method_1_code (4 : Nat) (Option.none : Option Jvm.ClassFile.FieldType), Jvm.Cond.code ({ cls := "java/lang/Object", name := "<init>", desc := "()V" } : Jvm.MethodName) object_method_1_code (1 : Nat) (Option.none : Option Jvm.ClassFile.FieldType), Jvm.Cond.code ({ cls := "com/example/ref_access_rules/refaccessrules/pattern/Dfa", name := "distancesToAccepting", desc := "()[I" } : Jvm.MethodName) prog_20_method_2_code (11 : Nat) (Option.some (Jvm.ClassFile.FieldType.array Jvm.ClassFile.FieldType.int)), Jvm.Cond.code ({ cls := "java/util/Arrays", name := "copyOf", desc := "([II)[I" } : Jvm.MethodName) jdk_65_method_123_code (3 : Nat) (Option.some (Jvm.ClassFile.FieldType.array Jvm.ClassFile.FieldType.int)), Jvm.Cond.code ({ cls := "java/lang/Math", name := "min", desc := "(II)I" } : Jvm.MethodName) jdk_29_method_69_code (2 : Nat) (Option.some Jvm.ClassFile.FieldType.int), Jvm.Cond.code ({ cls := "java/util/Arrays", name := "fill", desc := "([II)V" } : Jvm.MethodName) jdk_65_method_103_code (4 : Nat) (Option.none : Option Jvm.ClassFile.FieldType), Jvm.Cond.code ({ cls := "com/example/ref_access_rules/refaccessrules/pattern/Dfa", name := "next", desc := "(II)I" } : Jvm.MethodName) prog_20_method_9_code (3 : Nat) (Option.some Jvm.ClassFile.FieldType.int)]
set_option maxRecDepth 65536 in
theorem codes_eq : words1.filter isCode = codes1 := rfl
theorem w_codes : ∀ c ∈ words1.filter isCode, c.before args0 about1 = true := by
  rw [codes_eq]
  intro c hc
  simp only [codes1, List.mem_cons, List.not_mem_nil, or_false] at hc
  rcases hc with rfl | rfl | rfl | rfl | rfl | rfl | rfl | rfl | rfl
  · exact w_c0
  · exact w_c1
  · exact w_c2
  · exact w_c3
  · exact w_c4
  · exact w_c5
  · exact w_c6
  · exact w_c7
  · exact w_c8
set_option maxRecDepth 65536 in
theorem w_t1 : (words1.take 24).all (fun c => isCode c || c.before args0 about1) = true := by decide +kernel
set_option maxRecDepth 65536 in
theorem w_t2 : (words1.drop 24).all (fun c => isCode c || c.before args0 about1) = true := by decide +kernel
theorem w_tables : (allAtoms (Jvm.Cond.code x code maxLocals ret :: tables_1)).before args0 about1 = true := by
  rw [allAtoms_all]
  show words1.all (fun c => c.before args0 about1) = true
  refine all_split ?_ w_codes
  rw [← List.take_append_drop 24 words1, List.all_append, w_t1, w_t2]
  rfl
set_option maxRecDepth 65536 in
theorem w_case : (Jvm.Cond.and given_1 narrow_1).before args0 about1 = true := by decide +kernel
theorem w_applies : (headSpec (Jvm.Cond.code x code maxLocals ret :: tables_1) room_1).applies x e0.platform about1 = true :=
  (Spec.applies_iff w_frames).mpr ⟨w_running, w_runnable, w_alone, w_named, w_hears, w_ripe, w_room, w_tables⟩
theorem atStart : AtStart classFile x code maxLocals ret World_1 tables_1 room_1 Calls_1 rest_1 Pre_1 launch0 p0 e0 about1 theMethod args0 below0 :=
  ⟨lists_1, trivial, launch0.admits_env _ _ _, launch0.least_env, fairChoices_fair.cas, fairChoices_fair.clock, w_frames, w_args, w_heap, w_applies, trivial, trivial, w_case⟩
end start1
theorem witness_1 : WitnessClaimed_1 := ⟨start1.p0, start1.e0, start1.about1, start1.theMethod, start1.args0, start1.below0, start1.atStart⟩
end Jvm.Pilot.@@N@@
