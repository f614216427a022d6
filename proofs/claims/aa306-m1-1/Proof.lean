import JvmDerived
import JvmDerived.Pilot.@@N@@Statement
import JvmDerived.Pilot.@@N@@Code
set_option linter.unusedVariables false
set_option linter.unusedSimpArgs false
namespace Jvm.Own
open Sem ClassFile Op Lib Jvm.Stand Jvm.Free Jvm.LawKit Jvm.RoadKit
/-- what stays put in the walk of one body: program, environment, the state at the call, the method, its arguments, the frames below, its record and code, the state behind the entry, the entry frame -/
abbrev Dyn : Type := Program × Env × State × MethodId × Array Value × List Frame × Method × Code × State × JFrame
def Base (Z : State) (y : MethodName) (bytes : ByteArray) (mx : Nat) (rt : Option FieldType) (D : Dyn) : Prop :=
  match D with
  | (p, _, s, m, _, _, meth, c, _, _) => p.tables.exec = Jvm.exec ∧ c.code = bytes ∧ c.maxLocals = mx ∧ s.vm.findClass y.cls = some m.cls ∧ Z.Warmed39 s.vm ∧ meth.sig.returnType = rt ∧ meth.locks = false ∧ meth.name = y.name
/-- the walk has come to pc with these locals, this stack, this heap; k cells and n slots have been made -/
def Rch (l : Launch) (Z : State) (n0 : Nat) (R : Room) (y : MethodName) (bytes : ByteArray) (mx : Nat) (rt : Option FieldType) (D : Dyn) (h : Heap) (k n pc : Nat) (Ls : Array Slot) (st : List Value) : Prop :=
  Base Z y bytes mx rt D ∧
  match D with
  | (p, e, s, m, args, below, meth, c, s₁, g0) => ∃ (T : State) (locs : List Loc), Stand p l e R s m args below meth c T locs k n ∧ T.heap = h ∧ Fr n0 locs ∧ Steps p.tables e below (s₁.setTop g0) (T.setTop (mkF m pc Ls st))
/-- the body has returned v and left the heap h -/
def Don (l : Launch) (Z : State) (n0 : Nat) (R : Room) (D : Dyn) (h : Heap) (k n : Nat) (v : Option Value) : Prop :=
  match D with
  | (p, e, s, m, args, below, meth, c, s₁, g0) => ∃ (T : State) (locs : List Loc) (fs : List Frame), Stand p l e R s m args below meth c T locs k n ∧ T.heap = h ∧ Fr n0 locs ∧ Steps p.tables e below (s₁.setTop g0) (T.setFrames fs) ∧ (T.setFrames fs).heap = h ∧
      (T.setFrames fs).status = .running ∧ Ended (T.setFrames fs) below (.returned v) ∧ s.WarmedH (T.setFrames fs).vm ∧ s.sameButNew ({ T.setFrames fs with vm := s.vm } : State) locs k n
/-- a callee's contract at the heap h and the arguments as' -/
def Con (l : Launch) (Z : State) (n0 : Nat) (y : MethodName) (bytes : ByteArray) (mx : Nat) (rt : Option FieldType) (rm : Room) (as' : Array Value) (h : Heap) (Q : Option Value → Heap → Prop) : Prop :=
  ∀ ws : List Jvm.Cond, MetFree l y (head1 (Jvm.Cond.code y bytes mx rt :: ws) rm) (fun a U => a = as' ∧ Z.Warmed39 U.vm ∧ U.heap = h) (fun _ _ _ _ _ => True) (fun _ U o U' => ∃ v L, o = .returned v ∧ (Fr n0 L ∧ Q v U'.heap) ∧ FrameEnd U o U' L rm.cells rm.slots)
def ishlW (x z : Int32) : Int32 := x <<< (z &&& 31)
def ishrW (x z : Int32) : Int32 := x >>> (z &&& 31)
def iushrW (x z : Int32) : Int32 := (x.toUInt32 >>> (z &&& 31).toUInt32).toInt32
def lshlW (x : Int64) (z : Int32) : Int64 := x <<< (z &&& 0x3f).toInt64
def lshrW (x : Int64) (z : Int32) : Int64 := x >>> (z &&& 0x3f).toInt64
def lushrW (x : Int64) (z : Int32) : Int64 := (x.toUInt64 >>> (z &&& 0x3f).toInt64.toUInt64).toInt64
def lremW (x z : Int64) : Int64 := x - (x / z) * z
def i2bW (x : Int32) : Int32 := x.toInt8.toInt32
def i2cW (x : Int32) : Int32 := x.toUInt32.toUInt16.toUInt32.toInt32
def i2sW (x : Int32) : Int32 := x.toInt16.toInt32
/-- an element of an int list, by a Java index -/
def ga (L : List Int32) (j : Int32) : Int32 := L.getD j.toNatClampNeg 0
section Kit
variable {l : Launch} {Z : State} {a0 : Array Value} {n0 : Nat} {R : Room} {y : MethodName} {bytes : ByteArray} {mx : Nat} {rt : Option FieldType} {D : Dyn} {h h' : Heap} {k n pc : Nat} {Ls : Array Slot} {st : List Value}
theorem Con.enter {rm : Room} {as' : Array Value} {Q : Option Value → Heap → Prop} (hp : plainFor y = true) (ef : ∀ m, entryFrame m as' mx = mkF m 0 Ls [])
    (f : ∀ D : Dyn, Rch l Z n0 rm y bytes mx rt D h 0 0 0 Ls [] → ∃ v h', Don l Z n0 rm D h' rm.cells rm.slots v ∧ Q v h') : Con l Z n0 y bytes mx rt rm as' h Q := by
  intro ws
  refine MetFree.of_bodySF hp hisR ?_
  intro p e s m args below meth c s₁ Bd hml0 hP hK
  obtain ⟨rfl, hZ, hh⟩ := hP
  have X0 : Stand p l e rm s m args below meth c s₁ [] 0 0 := Stand.of_body Bd
  have e0 : s₁.heap = h := by rw [← hh, Bd.state]; rfl
  obtain ⟨v, h', hD, hQ⟩ := f (p, e, s, m, args, below, meth, c, s₁, mkF m 0 Ls []) ⟨⟨Bd.exec, Bd.bytes, hml0, findClass_of_methodNamed Bd.named, hZ, Bd.returns, Bd.notSynchronized, (name_of_methodNamed Bd.named Bd.method).1⟩, s₁, [], X0, e0, Fr.nil n0, Steps.refl _⟩
  obtain ⟨T, locs, fs, X, eT, N, hs, hh', hrun, hend, hW, hsame⟩ := hD
  exact ⟨_, _, castTop (ef m) hs, hrun, hend, v, locs, rfl, ⟨N, hh'.symm ▸ hQ⟩, ⟨_, rfl⟩, hW, hsame⟩
theorem Rch.go (r : Rch l Z n0 R y bytes mx rt D h k n pc Ls st) {pc' : Nat} {Ls' : Array Slot} {st' : List Value}
    (f : ∀ {p : Program} {e : Env} {s : State} {m : MethodId} {args : Array Value} {below : List Frame} {meth : Method} {c : Code} {T : State} {locs : List Loc}, Stand p l e R s m args below meth c T locs k n → p.tables.exec = Jvm.exec → c.code = bytes → Z.Warmed39 s.vm → s.vm.findClass y.cls = some m.cls → T.heap = h →
      ∀ target, Steps p.tables e below (T.setTop (mkF m pc' Ls' st')) target → Steps p.tables e below (T.setTop (mkF m pc Ls st)) target) : Rch l Z n0 R y bytes mx rt D h k n pc' Ls' st' := by
  obtain ⟨p, e, s, m, args, below, meth, c, s₁, g0⟩ := D
  obtain ⟨hB, T, locs, X, eT, N, hs⟩ := r
  exact ⟨hB, T, locs, X, eT, N, hs.trans (f X hB.1 hB.2.1 hB.2.2.2.2.1 hB.2.2.2.1 eT _ (Steps.refl _))⟩
theorem Rch.mv (r : Rch l Z n0 R y bytes mx rt D h k n pc Ls st) {k' n' pc' : Nat} {Ls' : Array Slot} {st' : Heap → List Value} {P : Heap → Prop}
    (f : ∀ {p : Program} {e : Env} {s : State} {m : MethodId} {args : Array Value} {below : List Frame} {meth : Method} {c : Code} {T : State} {locs : List Loc}, Stand p l e R s m args below meth c T locs k n → p.tables.exec = Jvm.exec → c.code = bytes → c.maxLocals = mx → meth.name = y.name → Z.Warmed39 s.vm → s.vm.findClass y.cls = some m.cls → T.heap = h → Fr n0 locs →
      ∃ (T' : State) (h' : Heap) (locs' : List Loc), Stand p l e R s m args below meth c T' locs' k' n' ∧ T'.heap = h' ∧ P h' ∧ Fr n0 locs' ∧ Steps p.tables e below (T.setTop (mkF m pc Ls st)) (T'.setTop (mkF m pc' Ls' (st' h')))) : ∃ h', P h' ∧ Rch l Z n0 R y bytes mx rt D h' k' n' pc' Ls' (st' h') := by
  obtain ⟨p, e, s, m, args, below, meth, c, s₁, g0⟩ := D
  obtain ⟨hB, T, locs, X, eT, N, hs⟩ := r
  obtain ⟨T', h', locs', X', eT', hP, N', hs'⟩ := f X hB.1 hB.2.1 hB.2.2.1 hB.2.2.2.2.2.2.2 hB.2.2.2.2.1 hB.2.2.2.1 eT N
  exact ⟨h', hP, hB, T', locs', X', eT', N', hs.trans hs'⟩
theorem Rch.more (r : Rch l Z n0 R y bytes mx rt D h k n pc Ls st) {k' n' : Nat} (hk : k ≤ k') (hn : n ≤ n') : Rch l Z n0 R y bytes mx rt D h k' n' pc Ls st := by
  obtain ⟨p, e, s, m, args, below, meth, c, s₁, g0⟩ := D
  obtain ⟨hB, T, locs, X, eT, N, hs⟩ := r
  exact ⟨hB, T, locs, X.more hk hn, eT, N, hs⟩
theorem aload {i : Nat} {v : Value} (r : Rch l Z n0 R y bytes mx rt D h k n pc Ls st) (hd : decode bytes pc = .ok (.aload i, 2)) (hl : Ls[i]? = some (.val v)) (hv : v.isRef = true) : Rch l Z n0 R y bytes mx rt D h k n (pc + 2) Ls (v :: st) := r.go fun X hx b _ _ _ t q => XS.aload X.here hx rfl (hb b hd) hl hv q
theorem aloadN {i : Fin 4} {v : Value} (r : Rch l Z n0 R y bytes mx rt D h k n pc Ls st) (hd : decode bytes pc = .ok (.aload_n i, 1)) (hl : Ls[i.val]? = some (.val v)) (hv : v.isRef = true) : Rch l Z n0 R y bytes mx rt D h k n (pc + 1) Ls (v :: st) := r.go fun X hx b _ _ _ t q => XS.aloadN X.here hx rfl (hb b hd) hl hv q
theorem iload {i : Nat} {v : Int32} (r : Rch l Z n0 R y bytes mx rt D h k n pc Ls st) (hd : decode bytes pc = .ok (.iload i, 2)) (hl : Ls[i]? = some (.val (.int v))) : Rch l Z n0 R y bytes mx rt D h k n (pc + 2) Ls (.int v :: st) := r.go fun X hx b _ _ _ t q => XS.iload X.here hx rfl (hb b hd) hl q
theorem iloadN {i : Fin 4} {v : Int32} (r : Rch l Z n0 R y bytes mx rt D h k n pc Ls st) (hd : decode bytes pc = .ok (.iload_n i, 1)) (hl : Ls[i.val]? = some (.val (.int v))) : Rch l Z n0 R y bytes mx rt D h k n (pc + 1) Ls (.int v :: st) := r.go fun X hx b _ _ _ t q => XS.iloadN X.here hx rfl (hb b hd) hl q
theorem lload {i : Nat} {v : Int64} (r : Rch l Z n0 R y bytes mx rt D h k n pc Ls st) (hd : decode bytes pc = .ok (.lload i, 2)) (hl : Ls[i]? = some (.val (.long v))) : Rch l Z n0 R y bytes mx rt D h k n (pc + 2) Ls (.long v :: st) := r.go fun X hx b _ _ _ t q => XS.lload X.here hx rfl (hb b hd) hl q
theorem lloadN {i : Fin 4} {v : Int64} (r : Rch l Z n0 R y bytes mx rt D h k n pc Ls st) (hd : decode bytes pc = .ok (.lload_n i, 1)) (hl : Ls[i.val]? = some (.val (.long v))) : Rch l Z n0 R y bytes mx rt D h k n (pc + 1) Ls (.long v :: st) := r.go fun X hx b _ _ _ t q => XS.lloadN X.here hx rfl (hb b hd) hl q
theorem istore {x : Int32} {i : Nat} {L' : Array Slot} (r : Rch l Z n0 R y bytes mx rt D h k n pc Ls (.int x :: st)) (hd : decode bytes pc = .ok (.istore i, 2)) (hl : storeLocals Ls i (.int x) = some L') : Rch l Z n0 R y bytes mx rt D h k n (pc + 2) L' st := r.go fun X hx b _ _ _ t q => XS.istore X.here hx rfl (hb b hd) rfl hl q
theorem istoreN {x : Int32} {i : Fin 4} {L' : Array Slot} (r : Rch l Z n0 R y bytes mx rt D h k n pc Ls (.int x :: st)) (hd : decode bytes pc = .ok (.istore_n i, 1)) (hl : storeLocals Ls i.val (.int x) = some L') : Rch l Z n0 R y bytes mx rt D h k n (pc + 1) L' st := r.go fun X hx b _ _ _ t q => XS.istoreN X.here hx rfl (hb b hd) rfl hl q
theorem lstore {x : Int64} {i : Nat} {L' : Array Slot} (r : Rch l Z n0 R y bytes mx rt D h k n pc Ls (.long x :: st)) (hd : decode bytes pc = .ok (.lstore i, 2)) (hl : storeLocals Ls i (.long x) = some L') : Rch l Z n0 R y bytes mx rt D h k n (pc + 2) L' st := r.go fun X hx b _ _ _ t q => XS.lstore X.here hx rfl (hb b hd) rfl hl q
theorem lstoreN {x : Int64} {i : Fin 4} {L' : Array Slot} (r : Rch l Z n0 R y bytes mx rt D h k n pc Ls (.long x :: st)) (hd : decode bytes pc = .ok (.lstore_n i, 1)) (hl : storeLocals Ls i.val (.long x) = some L') : Rch l Z n0 R y bytes mx rt D h k n (pc + 1) L' st := r.go fun X hx b _ _ _ t q => XS.lstoreN X.here hx rfl (hb b hd) rfl hl q
theorem astore {x : Value} {i : Nat} {L' : Array Slot} (r : Rch l Z n0 R y bytes mx rt D h k n pc Ls (x :: st)) (hd : decode bytes pc = .ok (.astore i, 2)) (hv : x.isRef = true) (hl : storeLocals Ls i x = some L') : Rch l Z n0 R y bytes mx rt D h k n (pc + 2) L' st := r.go fun X hx b _ _ _ t q => XS.astore X.here hx rfl (hb b hd) rfl hv hl q
theorem astoreN {x : Value} {i : Fin 4} {L' : Array Slot} (r : Rch l Z n0 R y bytes mx rt D h k n pc Ls (x :: st)) (hd : decode bytes pc = .ok (.astore_n i, 1)) (hv : x.isRef = true) (hl : storeLocals Ls i.val x = some L') : Rch l Z n0 R y bytes mx rt D h k n (pc + 1) L' st := r.go fun X hx b _ _ _ t q => XS.astoreN X.here hx rfl (hb b hd) rfl hv hl q
theorem iconst {i : Int} {v : Int32} (r : Rch l Z n0 R y bytes mx rt D h k n pc Ls st) (hd : decode bytes pc = .ok (.iconst i, 1)) (hv : Int32.ofInt i = v) : Rch l Z n0 R y bytes mx rt D h k n (pc + 1) Ls (.int v :: st) := by subst hv; exact r.go fun X hx b _ _ _ t q => XS.iconst X.here hx rfl (hb b hd) q
theorem bipush {i : Int} {v : Int32} (r : Rch l Z n0 R y bytes mx rt D h k n pc Ls st) (hd : decode bytes pc = .ok (.bipush i, 2)) (hv : (Int8.ofInt i).toInt32 = v) : Rch l Z n0 R y bytes mx rt D h k n (pc + 2) Ls (.int v :: st) := by subst hv; exact r.go fun X hx b _ _ _ t q => XS.bipush X.here hx rfl (hb b hd) q
theorem sipush {i : Int} {v : Int32} (r : Rch l Z n0 R y bytes mx rt D h k n pc Ls st) (hd : decode bytes pc = .ok (.sipush i, 3)) (hv : (Int16.ofInt i).toInt32 = v) : Rch l Z n0 R y bytes mx rt D h k n (pc + 3) Ls (.int v :: st) := by subst hv; exact r.go fun X hx b _ _ _ t q => XS.sipush X.here hx rfl (hb b hd) q
theorem lconst {i : Fin 2} {v : Int64} (r : Rch l Z n0 R y bytes mx rt D h k n pc Ls st) (hd : decode bytes pc = .ok (.lconst i, 1)) (hv : Int64.ofNat i = v) : Rch l Z n0 R y bytes mx rt D h k n (pc + 1) Ls (.long v :: st) := by subst hv; exact r.go fun X hx b _ _ _ t q => XT.lconst X.here hx rfl (hb b hd) q
theorem aconstNull (r : Rch l Z n0 R y bytes mx rt D h k n pc Ls st) (hd : decode bytes pc = .ok (.aconst_null, 1)) : Rch l Z n0 R y bytes mx rt D h k n (pc + 1) Ls (.null :: st) := r.go fun X hx b _ _ _ t q => XS.aconstNull X.here hx rfl (hb b hd) q
theorem dup {x : Value} (r : Rch l Z n0 R y bytes mx rt D h k n pc Ls (x :: st)) (hd : decode bytes pc = .ok (.dup, 1)) (hc : x.category = 1) : Rch l Z n0 R y bytes mx rt D h k n (pc + 1) Ls (x :: x :: st) := r.go fun X hx b _ _ _ t q => XS.dup X.here hx rfl (hb b hd) rfl hc q
theorem pop {x : Value} (r : Rch l Z n0 R y bytes mx rt D h k n pc Ls (x :: st)) (hd : decode bytes pc = .ok (.pop, 1)) (hc : x.category = 1) : Rch l Z n0 R y bytes mx rt D h k n (pc + 1) Ls st := r.go fun X hx b _ _ _ t q => XS.pop X.here hx rfl (hb b hd) rfl hc q
theorem dupX1 {x z : Value} (r : Rch l Z n0 R y bytes mx rt D h k n pc Ls (x :: z :: st)) (hd : decode bytes pc = .ok (.dup_x1, 1)) (hc : x.category = 1) (hc2 : z.category = 1) : Rch l Z n0 R y bytes mx rt D h k n (pc + 1) Ls (x :: z :: x :: st) := r.go fun X hx b _ _ _ t q => XS.dupX1 X.here hx rfl (hb b hd) rfl hc hc2 q
theorem dup2 {x z : Value} (r : Rch l Z n0 R y bytes mx rt D h k n pc Ls (x :: z :: st)) (hd : decode bytes pc = .ok (.dup2, 1)) (hc : x.category = 1) (hc2 : z.category = 1) : Rch l Z n0 R y bytes mx rt D h k n (pc + 1) Ls (x :: z :: x :: z :: st) := r.go fun X hx b _ _ _ t q => XT.dup2 X.here hx rfl (hb b hd) rfl hc hc2 q
theorem dup2L {x : Int64} (r : Rch l Z n0 R y bytes mx rt D h k n pc Ls (.long x :: st)) (hd : decode bytes pc = .ok (.dup2, 1)) : Rch l Z n0 R y bytes mx rt D h k n (pc + 1) Ls (.long x :: .long x :: st) := r.go fun X hx b _ _ _ t q => XT.dup2L X.here hx rfl (hb b hd) rfl q
theorem iadd {x z : Int32} (r : Rch l Z n0 R y bytes mx rt D h k n pc Ls (.int z :: .int x :: st)) (hd : decode bytes pc = .ok (.iadd, 1)) : Rch l Z n0 R y bytes mx rt D h k n (pc + 1) Ls (.int (x + z) :: st) := r.go fun X hx b _ _ _ t q => XS.iadd X.here hx rfl (hb b hd) rfl q
theorem isub {x z : Int32} (r : Rch l Z n0 R y bytes mx rt D h k n pc Ls (.int z :: .int x :: st)) (hd : decode bytes pc = .ok (.isub, 1)) : Rch l Z n0 R y bytes mx rt D h k n (pc + 1) Ls (.int (x - z) :: st) := r.go fun X hx b _ _ _ t q => XS.isub X.here hx rfl (hb b hd) rfl q
theorem imul {x z : Int32} (r : Rch l Z n0 R y bytes mx rt D h k n pc Ls (.int z :: .int x :: st)) (hd : decode bytes pc = .ok (.imul, 1)) : Rch l Z n0 R y bytes mx rt D h k n (pc + 1) Ls (.int (x * z) :: st) := r.go fun X hx b _ _ _ t q => XS.imul X.here hx rfl (hb b hd) rfl q
theorem iand {x z : Int32} (r : Rch l Z n0 R y bytes mx rt D h k n pc Ls (.int z :: .int x :: st)) (hd : decode bytes pc = .ok (.iand, 1)) : Rch l Z n0 R y bytes mx rt D h k n (pc + 1) Ls (.int (x &&& z) :: st) := r.go fun X hx b _ _ _ t q => XS.iand X.here hx rfl (hb b hd) rfl q
theorem ior {x z : Int32} (r : Rch l Z n0 R y bytes mx rt D h k n pc Ls (.int z :: .int x :: st)) (hd : decode bytes pc = .ok (.ior, 1)) : Rch l Z n0 R y bytes mx rt D h k n (pc + 1) Ls (.int (x ||| z) :: st) := r.go fun X hx b _ _ _ t q => XS.ior X.here hx rfl (hb b hd) rfl q
theorem ixor {x z : Int32} (r : Rch l Z n0 R y bytes mx rt D h k n pc Ls (.int z :: .int x :: st)) (hd : decode bytes pc = .ok (.ixor, 1)) : Rch l Z n0 R y bytes mx rt D h k n (pc + 1) Ls (.int (x ^^^ z) :: st) := r.go fun X hx b _ _ _ t q => XS.ixor X.here hx rfl (hb b hd) rfl q
theorem ishl {x z : Int32} (r : Rch l Z n0 R y bytes mx rt D h k n pc Ls (.int z :: .int x :: st)) (hd : decode bytes pc = .ok (.ishl, 1)) : Rch l Z n0 R y bytes mx rt D h k n (pc + 1) Ls (.int (ishlW x z) :: st) := r.go fun X hx b _ _ _ t q => XS.ishl X.here hx rfl (hb b hd) rfl q
theorem ishr {x z : Int32} (r : Rch l Z n0 R y bytes mx rt D h k n pc Ls (.int z :: .int x :: st)) (hd : decode bytes pc = .ok (.ishr, 1)) : Rch l Z n0 R y bytes mx rt D h k n (pc + 1) Ls (.int (ishrW x z) :: st) := r.go fun X hx b _ _ _ t q => XS.ishr X.here hx rfl (hb b hd) rfl q
theorem iushr {x z : Int32} (r : Rch l Z n0 R y bytes mx rt D h k n pc Ls (.int z :: .int x :: st)) (hd : decode bytes pc = .ok (.iushr, 1)) : Rch l Z n0 R y bytes mx rt D h k n (pc + 1) Ls (.int (iushrW x z) :: st) := r.go fun X hx b _ _ _ t q => XS.iushr X.here hx rfl (hb b hd) rfl q
theorem idiv {x z : Int32} (r : Rch l Z n0 R y bytes mx rt D h k n pc Ls (.int z :: .int x :: st)) (hd : decode bytes pc = .ok (.idiv, 1)) (hz : z ≠ 0) : Rch l Z n0 R y bytes mx rt D h k n (pc + 1) Ls (.int (x / z) :: st) := r.go fun X hx b _ _ _ t q => XS.idiv X.here hx rfl (hb b hd) rfl hz q
theorem irem {x z : Int32} (r : Rch l Z n0 R y bytes mx rt D h k n pc Ls (.int z :: .int x :: st)) (hd : decode bytes pc = .ok (.irem, 1)) (hz : z ≠ 0) : Rch l Z n0 R y bytes mx rt D h k n (pc + 1) Ls (.int (x % z) :: st) := r.go fun X hx b _ _ _ t q => iremM X hx rfl (hb b hd) rfl hz q
theorem ineg {x : Int32} (r : Rch l Z n0 R y bytes mx rt D h k n pc Ls (.int x :: st)) (hd : decode bytes pc = .ok (.ineg, 1)) : Rch l Z n0 R y bytes mx rt D h k n (pc + 1) Ls (.int (-x) :: st) := r.go fun X hx b _ _ _ t q => XS.ineg X.here hx rfl (hb b hd) rfl q
theorem ladd {x z : Int64} (r : Rch l Z n0 R y bytes mx rt D h k n pc Ls (.long z :: .long x :: st)) (hd : decode bytes pc = .ok (.ladd, 1)) : Rch l Z n0 R y bytes mx rt D h k n (pc + 1) Ls (.long (x + z) :: st) := r.go fun X hx b _ _ _ t q => XS.ladd X.here hx rfl (hb b hd) rfl q
theorem lsub {x z : Int64} (r : Rch l Z n0 R y bytes mx rt D h k n pc Ls (.long z :: .long x :: st)) (hd : decode bytes pc = .ok (.lsub, 1)) : Rch l Z n0 R y bytes mx rt D h k n (pc + 1) Ls (.long (x - z) :: st) := r.go fun X hx b _ _ _ t q => XS.lsub X.here hx rfl (hb b hd) rfl q
theorem lmul {x z : Int64} (r : Rch l Z n0 R y bytes mx rt D h k n pc Ls (.long z :: .long x :: st)) (hd : decode bytes pc = .ok (.lmul, 1)) : Rch l Z n0 R y bytes mx rt D h k n (pc + 1) Ls (.long (x * z) :: st) := r.go fun X hx b _ _ _ t q => XS.lmul X.here hx rfl (hb b hd) rfl q
theorem land {x z : Int64} (r : Rch l Z n0 R y bytes mx rt D h k n pc Ls (.long z :: .long x :: st)) (hd : decode bytes pc = .ok (.land, 1)) : Rch l Z n0 R y bytes mx rt D h k n (pc + 1) Ls (.long (x &&& z) :: st) := r.go fun X hx b _ _ _ t q => XS.land X.here hx rfl (hb b hd) rfl q
theorem lor {x z : Int64} (r : Rch l Z n0 R y bytes mx rt D h k n pc Ls (.long z :: .long x :: st)) (hd : decode bytes pc = .ok (.lor, 1)) : Rch l Z n0 R y bytes mx rt D h k n (pc + 1) Ls (.long (x ||| z) :: st) := r.go fun X hx b _ _ _ t q => XS.lor X.here hx rfl (hb b hd) rfl q
theorem lxor {x z : Int64} (r : Rch l Z n0 R y bytes mx rt D h k n pc Ls (.long z :: .long x :: st)) (hd : decode bytes pc = .ok (.lxor, 1)) : Rch l Z n0 R y bytes mx rt D h k n (pc + 1) Ls (.long (x ^^^ z) :: st) := r.go fun X hx b _ _ _ t q => XS.lxor X.here hx rfl (hb b hd) rfl q
theorem ldiv {x z : Int64} (r : Rch l Z n0 R y bytes mx rt D h k n pc Ls (.long z :: .long x :: st)) (hd : decode bytes pc = .ok (.ldiv, 1)) (hz : z ≠ 0) : Rch l Z n0 R y bytes mx rt D h k n (pc + 1) Ls (.long (x / z) :: st) := r.go fun X hx b _ _ _ t q => XS.ldiv X.here hx rfl (hb b hd) rfl hz q
theorem lrem {x z : Int64} (r : Rch l Z n0 R y bytes mx rt D h k n pc Ls (.long z :: .long x :: st)) (hd : decode bytes pc = .ok (.lrem, 1)) (hz : z ≠ 0) : Rch l Z n0 R y bytes mx rt D h k n (pc + 1) Ls (.long (lremW x z) :: st) := r.go fun X hx b _ _ _ t q => XS.lrem X.here hx rfl (hb b hd) rfl hz q
theorem lcmp {x z : Int64} (r : Rch l Z n0 R y bytes mx rt D h k n pc Ls (.long z :: .long x :: st)) (hd : decode bytes pc = .ok (.lcmp, 1)) : Rch l Z n0 R y bytes mx rt D h k n (pc + 1) Ls (.int (XT.cmpL x z) :: st) := r.go fun X hx b _ _ _ t q => XT.lcmp X.here hx rfl (hb b hd) rfl q
theorem lneg {x : Int64} (r : Rch l Z n0 R y bytes mx rt D h k n pc Ls (.long x :: st)) (hd : decode bytes pc = .ok (.lneg, 1)) : Rch l Z n0 R y bytes mx rt D h k n (pc + 1) Ls (.long (-x) :: st) := r.go fun X hx b _ _ _ t q => XS.lneg X.here hx rfl (hb b hd) rfl q
theorem lshl {x : Int64} {z : Int32} (r : Rch l Z n0 R y bytes mx rt D h k n pc Ls (.int z :: .long x :: st)) (hd : decode bytes pc = .ok (.lshl, 1)) : Rch l Z n0 R y bytes mx rt D h k n (pc + 1) Ls (.long (lshlW x z) :: st) := r.go fun X hx b _ _ _ t q => XS.lshl X.here hx rfl (hb b hd) rfl q
theorem lshr {x : Int64} {z : Int32} (r : Rch l Z n0 R y bytes mx rt D h k n pc Ls (.int z :: .long x :: st)) (hd : decode bytes pc = .ok (.lshr, 1)) : Rch l Z n0 R y bytes mx rt D h k n (pc + 1) Ls (.long (lshrW x z) :: st) := r.go fun X hx b _ _ _ t q => XS.lshr X.here hx rfl (hb b hd) rfl q
theorem lushr {x : Int64} {z : Int32} (r : Rch l Z n0 R y bytes mx rt D h k n pc Ls (.int z :: .long x :: st)) (hd : decode bytes pc = .ok (.lushr, 1)) : Rch l Z n0 R y bytes mx rt D h k n (pc + 1) Ls (.long (lushrW x z) :: st) := r.go fun X hx b _ _ _ t q => XS.lushr X.here hx rfl (hb b hd) rfl q
theorem i2l {x : Int32} (r : Rch l Z n0 R y bytes mx rt D h k n pc Ls (.int x :: st)) (hd : decode bytes pc = .ok (.i2l, 1)) : Rch l Z n0 R y bytes mx rt D h k n (pc + 1) Ls (.long x.toInt64 :: st) := r.go fun X hx b _ _ _ t q => XS.i2l X.here hx rfl (hb b hd) rfl q
theorem l2i {x : Int64} (r : Rch l Z n0 R y bytes mx rt D h k n pc Ls (.long x :: st)) (hd : decode bytes pc = .ok (.l2i, 1)) : Rch l Z n0 R y bytes mx rt D h k n (pc + 1) Ls (.int x.toInt32 :: st) := r.go fun X hx b _ _ _ t q => XS.l2i X.here hx rfl (hb b hd) rfl q
theorem i2b {x : Int32} (r : Rch l Z n0 R y bytes mx rt D h k n pc Ls (.int x :: st)) (hd : decode bytes pc = .ok (.i2b, 1)) : Rch l Z n0 R y bytes mx rt D h k n (pc + 1) Ls (.int (i2bW x) :: st) := r.go fun X hx b _ _ _ t q => XS.i2b X.here hx rfl (hb b hd) rfl q
theorem i2c {x : Int32} (r : Rch l Z n0 R y bytes mx rt D h k n pc Ls (.int x :: st)) (hd : decode bytes pc = .ok (.i2c, 1)) : Rch l Z n0 R y bytes mx rt D h k n (pc + 1) Ls (.int (i2cW x) :: st) := r.go fun X hx b _ _ _ t q => XS.i2c X.here hx rfl (hb b hd) rfl q
theorem i2s {x : Int32} (r : Rch l Z n0 R y bytes mx rt D h k n pc Ls (.int x :: st)) (hd : decode bytes pc = .ok (.i2s, 1)) : Rch l Z n0 R y bytes mx rt D h k n (pc + 1) Ls (.int (i2sW x) :: st) := r.go fun X hx b _ _ _ t q => XS.i2s X.here hx rfl (hb b hd) rfl q
theorem iinc {i : Nat} {cst : Int} {x v : Int32} {L' : Array Slot} (r : Rch l Z n0 R y bytes mx rt D h k n pc Ls st) (hd : decode bytes pc = .ok (.iinc i cst, 3)) (hl : Ls[i]? = some (.val (.int x))) (hv : Int32.ofInt cst = v) (hl' : storeLocals Ls i (.int (x + v)) = some L') : Rch l Z n0 R y bytes mx rt D h k n (pc + 3) L' st := by subst hv; exact r.go fun X hx b _ _ _ t q => XS.iinc X.here hx rfl (hb b hd) hl hl' q
theorem istoreS {x : Int32} {i : Nat} {o : Slot} (r : Rch l Z n0 R y bytes mx rt D h k n pc Ls (.int x :: st)) (hd : decode bytes pc = .ok (.istore i, 2)) (hold : Ls[i]? = some o) (ho : o = .unset ∨ ∃ w, o = .val w ∧ w.category = 1) : Rch l Z n0 R y bytes mx rt D h k n (pc + 2) (Ls.setIfInBounds i (.val (.int x))) st := r.go fun X hx b _ _ _ t q => XS.istoreS X.here hx rfl (hb b hd) rfl hold ho q
theorem istoreNS {x : Int32} {i : Fin 4} {o : Slot} (r : Rch l Z n0 R y bytes mx rt D h k n pc Ls (.int x :: st)) (hd : decode bytes pc = .ok (.istore_n i, 1)) (hold : Ls[i.val]? = some o) (ho : o = .unset ∨ ∃ w, o = .val w ∧ w.category = 1) : Rch l Z n0 R y bytes mx rt D h k n (pc + 1) (Ls.setIfInBounds i.val (.val (.int x))) st := r.go fun X hx b _ _ _ t q => XS.istoreNS X.here hx rfl (hb b hd) rfl hold ho q
theorem astoreS {x : Value} {i : Nat} {o : Slot} (r : Rch l Z n0 R y bytes mx rt D h k n pc Ls (x :: st)) (hd : decode bytes pc = .ok (.astore i, 2)) (hv : x.isRef = true) (hold : Ls[i]? = some o) (ho : o = .unset ∨ ∃ w, o = .val w ∧ w.category = 1) : Rch l Z n0 R y bytes mx rt D h k n (pc + 2) (Ls.setIfInBounds i (.val x)) st := r.go fun X hx b _ _ _ t q => XS.astoreS X.here hx rfl (hb b hd) rfl hv (XT.cat1 hv) hold ho q
theorem astoreNS {x : Value} {i : Fin 4} {o : Slot} (r : Rch l Z n0 R y bytes mx rt D h k n pc Ls (x :: st)) (hd : decode bytes pc = .ok (.astore_n i, 1)) (hv : x.isRef = true) (hold : Ls[i.val]? = some o) (ho : o = .unset ∨ ∃ w, o = .val w ∧ w.category = 1) : Rch l Z n0 R y bytes mx rt D h k n (pc + 1) (Ls.setIfInBounds i.val (.val x)) st := r.go fun X hx b _ _ _ t q => XT.astoreNS X.here hx rfl (hb b hd) rfl hv (XT.cat1 hv) hold ho q
/-! branches -/
theorem goto {o : Int} {pc' : Nat} (r : Rch l Z n0 R y bytes mx rt D h k n pc Ls st) (hd : decode bytes pc = .ok (.goto o, 3)) (ho : 0 ≤ (pc : Int) + o) (hp : ((pc : Int) + o).toNat = pc') : Rch l Z n0 R y bytes mx rt D h k n pc' Ls st := r.go fun X hx b _ _ _ t q => XS.goto X.here hx rfl (pc0 := pc) rfl (hb b hd) ho hp q
theorem ifYes {cd : ClassFile.Cond} {x : Int32} {o : Int} {pc' : Nat} (r : Rch l Z n0 R y bytes mx rt D h k n pc Ls (.int x :: st)) (hd : decode bytes pc = .ok (.ifCond cd o, 3)) (hc : ifCond.holds cd x = true) (ho : 0 ≤ (pc : Int) + o) (hp : ((pc : Int) + o).toNat = pc') : Rch l Z n0 R y bytes mx rt D h k n pc' Ls st := r.go fun X hx b _ _ _ t q => XS.ifYes X.here hx rfl (pc0 := pc) rfl (hb b hd) rfl hc ho hp q
theorem ifNo {cd : ClassFile.Cond} {x : Int32} {o : Int} (r : Rch l Z n0 R y bytes mx rt D h k n pc Ls (.int x :: st)) (hd : decode bytes pc = .ok (.ifCond cd o, 3)) (hc : ifCond.holds cd x = false) : Rch l Z n0 R y bytes mx rt D h k n (pc + 3) Ls st := r.go fun X hx b _ _ _ t q => XS.ifNo X.here hx rfl (hb b hd) rfl hc q
theorem icmpYes {cd : ClassFile.Cond} {x z : Int32} {o : Int} {pc' : Nat} (r : Rch l Z n0 R y bytes mx rt D h k n pc Ls (.int z :: .int x :: st)) (hd : decode bytes pc = .ok (.if_icmp cd o, 3)) (hc : if_icmp.holds cd x z = true) (ho : 0 ≤ (pc : Int) + o) (hp : ((pc : Int) + o).toNat = pc') : Rch l Z n0 R y bytes mx rt D h k n pc' Ls st := r.go fun X hx b _ _ _ t q => XS.icmpYes X.here hx rfl (pc0 := pc) rfl (hb b hd) rfl hc ho hp q
theorem icmpNo {cd : ClassFile.Cond} {x z : Int32} {o : Int} (r : Rch l Z n0 R y bytes mx rt D h k n pc Ls (.int z :: .int x :: st)) (hd : decode bytes pc = .ok (.if_icmp cd o, 3)) (hc : if_icmp.holds cd x z = false) : Rch l Z n0 R y bytes mx rt D h k n (pc + 3) Ls st := r.go fun X hx b _ _ _ t q => XS.icmpNo X.here hx rfl (hb b hd) rfl hc q
theorem ifnullYes {o : Int} {pc' : Nat} (r : Rch l Z n0 R y bytes mx rt D h k n pc Ls (.null :: st)) (hd : decode bytes pc = .ok (.ifnull o, 3)) (ho : 0 ≤ (pc : Int) + o) (hp : ((pc : Int) + o).toNat = pc') : Rch l Z n0 R y bytes mx rt D h k n pc' Ls st := r.go fun X hx b _ _ _ t q => XS.ifnullYes X.here hx rfl (pc0 := pc) rfl (hb b hd) rfl ho hp q
theorem ifnullNo {o : Int} {a : Addr} (r : Rch l Z n0 R y bytes mx rt D h k n pc Ls (.ref a :: st)) (hd : decode bytes pc = .ok (.ifnull o, 3)) : Rch l Z n0 R y bytes mx rt D h k n (pc + 3) Ls st := r.go fun X hx b _ _ _ t q => XS.ifnullNo X.here hx rfl (hb b hd) rfl q
theorem ifnonnullYes {o : Int} {a : Addr} {pc' : Nat} (r : Rch l Z n0 R y bytes mx rt D h k n pc Ls (.ref a :: st)) (hd : decode bytes pc = .ok (.ifnonnull o, 3)) (ho : 0 ≤ (pc : Int) + o) (hp : ((pc : Int) + o).toNat = pc') : Rch l Z n0 R y bytes mx rt D h k n pc' Ls st := r.go fun X hx b _ _ _ t q => XS.ifnonnullYes X.here hx rfl (pc0 := pc) rfl (hb b hd) rfl ho hp q
theorem ifnonnullNo {o : Int} (r : Rch l Z n0 R y bytes mx rt D h k n pc Ls (.null :: st)) (hd : decode bytes pc = .ok (.ifnonnull o, 3)) : Rch l Z n0 R y bytes mx rt D h k n (pc + 3) Ls st := r.go fun X hx b _ _ _ t q => XS.ifnonnullNo X.here hx rfl (hb b hd) rfl q
theorem acmp {cd : ClassFile.ACond} {x z : Value} {o : Int} {pc' : Nat} {same : Bool} (r : Rch l Z n0 R y bytes mx rt D h k n pc Ls (z :: x :: st)) (hd : decode bytes pc = .ok (.if_acmp cd o, 3)) (h1 : x.isRef = true) (h2 : z.isRef = true) (hq : decide (x = z) = same) (ho : 0 ≤ (pc : Int) + o) (hp : pc' = if acV cd same = true then ((pc : Int) + o).toNat else pc + 3) : Rch l Z n0 R y bytes mx rt D h k n pc' Ls st := r.go fun X hx b _ _ _ t q => Jvm.RoadKit.acmp X hx rfl h1 h2 (pc0 := pc) rfl (hb b hd) rfl hq ho hp q
/-! constants, fields, new cells -/
theorem ldcI {index : Nat} {v : Int32} (r : Rch l Z n0 R y bytes mx rt D h k n pc Ls st) (hd : decode bytes pc = .ok (.ldc index, 2)) (w : (Jvm.Cond.constant y.cls index v).before a0 Z = true) : Rch l Z n0 R y bytes mx rt D h k n (pc + 2) Ls (.int v :: st) := r.go fun X hx b hZ ho _ t q => X.ldcInt hx ho (mvT hZ w) (g := mkF _ pc Ls st) rfl (hb b hd) t q
theorem ldcJ {index : Nat} {v : Int64} (r : Rch l Z n0 R y bytes mx rt D h k n pc Ls st) (hd : decode bytes pc = .ok (.ldc2_w index, 3)) (w : (Jvm.Cond.constantLong y.cls index v).before a0 Z = true) : Rch l Z n0 R y bytes mx rt D h k n (pc + 3) Ls (.long v :: st) := r.go fun X hx b hZ ho _ t q => X.ldc2Long hx ho (mvT hZ w) (g := mkF _ pc Ls st) rfl (hb b hd) t q
theorem ldcWI {index : Nat} {v : Int32} (r : Rch l Z n0 R y bytes mx rt D h k n pc Ls st) (hd : decode bytes pc = .ok (.ldc_w index, 3)) (w : (Jvm.Cond.constant y.cls index v).before a0 Z = true) : Rch l Z n0 R y bytes mx rt D h k n (pc + 3) Ls (.int v :: st) := r.go fun X hx b hZ ho _ t q => X.ldcwInt hx ho (mvT hZ w) (g := mkF _ pc Ls st) rfl (hb b hd) t q
theorem getfield {R0 O nm d host : String} {index : Nat} {a : Addr} {v : Value} (r : Rch l Z n0 R y bytes mx rt D h k n pc Ls (.ref a :: st)) (hd : decode bytes pc = .ok (.getfield index, 3)) (w : (Jvm.Cond.fieldLink y.cls index R0 nm d).before a0 Z = true ∨ (Jvm.Cond.fieldLinkNest y.cls index R0 nm d host).before a0 Z = true) (via : Via Z R0 O nm d) (F : Fld Z h a O nm d v) : Rch l Z n0 R y bytes mx rt D h k n (pc + 3) Ls (v :: st) := by
  obtain ⟨h', rfl, r'⟩ := r.mv (P := fun h' => h = h') (st' := fun _ => v :: st) (k' := k) (n' := n) (pc' := pc + 3) (Ls' := Ls) fun X hx b _ _ hZ ho eT N => by
    obtain ⟨T', X', e', s'⟩ := getF X hx hZ ho w via eT F (g := mkF _ pc Ls (.ref a :: st)) rfl rfl (hb b hd)
    exact ⟨T', h, _, X', e', rfl, N, s' _ (Steps.refl _)⟩
  exact r'
theorem getstatic {R0 O nm d : String} {index : Nat} {v : Value} (r : Rch l Z n0 R y bytes mx rt D h k n pc Ls st) (hd : decode bytes pc = .ok (.getstatic index, 3)) (w : (Jvm.Cond.fieldLink y.cls index R0 nm d).before a0 Z = true) (via : Via Z R0 O nm d) (F : Sta Z h O nm d v) : Rch l Z n0 R y bytes mx rt D h k n (pc + 3) Ls (v :: st) := by
  obtain ⟨h', rfl, r'⟩ := r.mv (P := fun h' => h = h') (st' := fun _ => v :: st) (k' := k) (n' := n) (pc' := pc + 3) (Ls' := Ls) fun X hx b _ _ hZ ho eT N => by
    obtain ⟨T', X', e', s'⟩ := getS X hx hZ (host := "") ho w via eT F (g := mkF _ pc Ls st) rfl (hb b hd)
    exact ⟨T', h, _, X', e', rfl, N, s' _ (Steps.refl _)⟩
  exact r'
theorem putfield {R0 O nm d host C : String} {index kk : Nat} {ty : FieldType} {a : Addr} {v old : Value} (r : Rch l Z n0 R y bytes mx rt D h k n pc Ls (v :: .ref a :: st)) (hd : decode bytes pc = .ok (.putfield index, 3)) (w : (Jvm.Cond.fieldLink y.cls index R0 nm d).before a0 Z = true ∨ (Jvm.Cond.fieldLinkNest y.cls index R0 nm d host).before a0 Z = true) (via : Via Z R0 O nm d) (F : Fld Z h a O nm d old) (E : Exa Z h a C)
    (L : (Jvm.Cond.lays C O nm d).before a0 Z = true ∨ ((Jvm.Cond.laysFinal C O nm d).before a0 Z = true ∧ y.cls = O ∧ y.name = "<init>")) (wi : (Jvm.Cond.instantiable C kk).before a0 Z = true) (hty : parseFieldDescriptor d = some ty) (hn : narrow ty v = v) (hf : fits ty v = true) (hg : n0 ≤ a) :
    ∃ h', Wr h h' a (Jvm.RoadKit.slotOf Z O nm d) v ∧ Rch l Z n0 R y bytes mx rt D h' k n (pc + 3) Ls st :=
  r.mv (P := fun h' => Wr h h' a (Jvm.RoadKit.slotOf Z O nm d) v) (st' := fun _ => st) fun X hx b _ hnm hZ ho eT N => by
    obtain ⟨T', h', X', e', W, s'⟩ := putF X hx hZ ho w via eT F E (L.imp id fun q => ⟨q.1, q.2.1, hnm.trans q.2.2⟩) wi hty hn hf (g := mkF _ pc Ls (v :: .ref a :: st)) rfl rfl (hb b hd)
    exact ⟨T', h', _, X', e', W, Fr.snoc X' N hg, s' _ (Steps.refl _)⟩
theorem newObj {C : String} {index nn : Nat} (r : Rch l Z n0 R y bytes mx rt D h k n pc Ls st) (hd : decode bytes pc = .ok (.new index, 3)) (w : (Jvm.Cond.classLink y.cls index C).before a0 Z = true) (wi : (Jvm.Cond.instantiable C nn).before a0 Z = true) (wz : (Jvm.Cond.initialized C).before a0 Z = true) (hc : k + 1 ≤ R.cells) (hl : n + nn ≤ R.slots) :
    ∃ h', (Ext h h' ∧ Exa Z h' h.size C ∧ ∀ {O nm d : String} {ty : FieldType}, Laid Z a0 C O nm d → parseFieldDescriptor d = some ty → Fld Z h' h.size O nm d (defaultValue ty)) ∧ Rch l Z n0 R y bytes mx rt D h' (k + 1) (n + nn) (pc + 3) Ls (.ref h.size :: st) :=
  r.mv (P := fun h' => Ext h h' ∧ Exa Z h' h.size C ∧ ∀ {O nm d : String} {ty : FieldType}, Laid Z a0 C O nm d → parseFieldDescriptor d = some ty → Fld Z h' h.size O nm d (defaultValue ty)) (st' := fun _ => .ref h.size :: st) fun X hx b _ _ hZ ho eT N => by
    obtain ⟨T', h', X', e', E', A', D', -, s'⟩ := newO X hx hZ ho w wi wz eT (g := mkF _ pc Ls st) rfl (hb b hd) hc hl
    exact ⟨T', h', _, X', e', ⟨E', A', D'⟩, N, s' _ (Steps.refl _)⟩
theorem initObj {index : Nat} {a : Addr} {W : Nat} (r : Rch l Z n0 R y bytes mx rt D h k n pc Ls (.ref a :: st)) (hd : decode bytes pc = .ok (.invokespecial index, 3)) (w1 : (Jvm.Cond.methodLink y.cls index Lib.objectInit).before a0 Z = true) (w2 : (Jvm.Cond.instanceMethod Lib.objectInit).before a0 Z = true) (w3 : (Jvm.Cond.code Lib.objectInit ⟨#[0xb1]⟩ 1 none).before a0 Z = true) (hsz : Ls.size = mx) (hf : 1 ≤ R.frames) (hW : (st.map fun v => v.category).sum ≤ W) (hl : W + 12 ≤ R.locals) : Rch l Z n0 R y bytes mx rt D h k n (pc + 3) Ls st := by
  obtain ⟨h', rfl, r'⟩ := r.mv (P := fun h' => h = h') (st' := fun _ => st) (k' := k) (n' := n) (pc' := pc + 3) (Ls' := Ls) fun X hx b hml _ hZ ho eT N => by
    obtain ⟨T', X', e', s'⟩ := initO X hx hZ ho w1 w2 w3 eT (g := mkF _ pc Ls (.ref a :: st)) rfl (hsz.trans hml.symm) rfl (hb b hd) hf (W := W) (by show 2 * 0 + _ ≤ _; omega) hl
    exact ⟨T', h, _, X', e', rfl, N, s' _ (Steps.refl _)⟩
  exact r'
theorem instYes {K : String} {index : Nat} {a : Addr} (r : Rch l Z n0 R y bytes mx rt D h k n pc Ls (.ref a :: st)) (hd : decode bytes pc = .ok (.instanceof index, 3)) (w : (Jvm.Cond.classLink y.cls index K).before a0 Z = true) (F : Ins Z h a K true) : Rch l Z n0 R y bytes mx rt D h k n (pc + 3) Ls (.int 1 :: st) := by
  obtain ⟨h', rfl, r'⟩ := r.mv (P := fun h' => h = h') (st' := fun _ => .int 1 :: st) (k' := k) (n' := n) (pc' := pc + 3) (Ls' := Ls) fun X hx b _ _ hZ ho eT N => by
    obtain ⟨T', X', e', s'⟩ := instY X hx hZ ho w eT F (g := mkF _ pc Ls (.ref a :: st)) rfl rfl (hb b hd)
    exact ⟨T', h, _, X', e', rfl, N, s' _ (Steps.refl _)⟩
  exact r'
theorem instNo {K C : String} {index : Nat} {a : Addr} (r : Rch l Z n0 R y bytes mx rt D h k n pc Ls (.ref a :: st)) (hd : decode bytes pc = .ok (.instanceof index, 3)) (w : (Jvm.Cond.classLink y.cls index K).before a0 Z = true) (E : Exa Z h a C) (F : ∃ c t, Z.vm.findClass C = some c ∧ Z.vm.findClass K = some t ∧ Z.vm.assignable c t = false) : Rch l Z n0 R y bytes mx rt D h k n (pc + 3) Ls (.int 0 :: st) := by
  obtain ⟨h', rfl, r'⟩ := r.mv (P := fun h' => h = h') (st' := fun _ => .int 0 :: st) (k' := k) (n' := n) (pc' := pc + 3) (Ls' := Ls) fun X hx b _ _ hZ ho eT N => by
    obtain ⟨T', X', e', s'⟩ := Jvm.RoadKit.instNo X hx hZ ho w eT E F (g := mkF _ pc Ls (.ref a :: st)) rfl rfl (hb b hd)
    exact ⟨T', h, _, X', e', rfl, N, s' _ (Steps.refl _)⟩
  exact r'
theorem instNull {index : Nat} (r : Rch l Z n0 R y bytes mx rt D h k n pc Ls (.null :: st)) (hd : decode bytes pc = .ok (.instanceof index, 3)) : Rch l Z n0 R y bytes mx rt D h k n (pc + 3) Ls (.int 0 :: st) := r.go fun X hx b _ _ _ t q => X.instanceofNull hx (g := mkF _ pc Ls (.null :: st)) rfl rfl (hb b hd) t q
theorem castYes {K : String} {index : Nat} {a : Addr} (r : Rch l Z n0 R y bytes mx rt D h k n pc Ls (.ref a :: st)) (hd : decode bytes pc = .ok (.checkcast index, 3)) (w : (Jvm.Cond.classLink y.cls index K).before a0 Z = true) (F : Ins Z h a K true) : Rch l Z n0 R y bytes mx rt D h k n (pc + 3) Ls (.ref a :: st) := by
  obtain ⟨h', rfl, r'⟩ := r.mv (P := fun h' => h = h') (st' := fun _ => .ref a :: st) (k' := k) (n' := n) (pc' := pc + 3) (Ls' := Ls) fun X hx b _ _ hZ ho eT N => by
    obtain ⟨T', X', e', s'⟩ := castY X hx hZ ho w eT F (g := mkF _ pc Ls (.ref a :: st)) rfl rfl (hb b hd)
    exact ⟨T', h, _, X', e', rfl, N, s' _ (Steps.refl _)⟩
  exact r'
theorem aaload {a : Addr} {c : Cell} {ty : FieldType} {j : Int32} {v : Value} (r : Rch l Z n0 R y bytes mx rt D h k n pc Ls (.int j :: .ref a :: st)) (hd : decode bytes pc = .ok (.aaload, 1)) (A : Arr Z h a c ty) (ht : ty.isReference = true) (hi : ¬ (j < 0 ∨ c.slots.size ≤ j.toNatClampNeg)) (hv : c.slots[j.toNatClampNeg]? = some v) : Rch l Z n0 R y bytes mx rt D h k n (pc + 1) Ls (v :: st) :=
  r.go fun X hx b hZ _ eT t q => X.aaload hx (j := j) (v := v) (by rw [eT]; exact A.1) (State.isArrayOf_alike hZ.alike A.2.1) ht A.2.2 hi hv (g := mkF _ pc Ls (.int j :: .ref a :: st)) rfl rfl (hb b hd) t q
/-! arrays: their elements as a list -/
def VA (Z : State) (h : Heap) (a : Addr) (ty : FieldType) (vs : List Value) : Prop := ∃ c : Cell, Arr Z h a c ty ∧ c.slots = vs.toArray ∧ vs.length < 2 ^ 31
section Facts
variable {a b : Addr} {ty : FieldType} {vs : List Value} {sl : Nat} {v : Value} {ws : List Addr}
theorem VA.lt (A : VA Z h a ty vs) : a < h.size := by obtain ⟨c, A, -⟩ := A; exact A.lt
theorem VA.len (A : VA Z h a ty vs) : vs.length < 2 ^ 31 := by obtain ⟨c, -, -, q⟩ := A; exact q
theorem VA.ext (A : VA Z h a ty vs) (E : Ext h h') : VA Z h' a ty vs := by obtain ⟨c, A, r⟩ := A; exact ⟨c, A.ext E, r⟩
theorem VA.other (A : VA Z h b ty vs) (W : Wr h h' a sl v) (q : b ≠ a) : VA Z h' b ty vs := by obtain ⟨c, A, r⟩ := A; exact ⟨c, A.other W q, r⟩
theorem VA.keep (A : VA Z h a ty vs) (K : Keep h h' ws) (q : a ∉ ws) : VA Z h' a ty vs := by obtain ⟨c, A, r⟩ := A; exact ⟨c, ⟨K.2.1 a c A.1 q, A.2⟩, r⟩
theorem VA.set (A : VA Z h a ty vs) (W : Wr h h' a sl v) : VA Z h' a ty (vs.set sl v) := by
  obtain ⟨c, A, e, q⟩ := A
  refine ⟨c.setSlot sl v, A.same W, ?_, by simpa using q⟩
  show c.slots.setIfInBounds sl v = _
  rw [e]; simp
theorem VA.new {cA : ClassId} {z : Int32} (A : Arr Z h a (newA cA ty z) ty) (q : ¬ z < 0) : VA Z h a ty (List.replicate z.toNatClampNeg (defaultValue ty)) := by
  refine ⟨_, A, ?_, ?_⟩
  · simp [newA]
  · rw [List.length_replicate]; exact (back32 q).2
theorem VA.inb (A : VA Z h a ty vs) {j : Int32} (hj : ¬ j < 0) (hlt : j.toNatClampNeg < vs.length) : ∃ c, Arr Z h a c ty ∧ c.slots = vs.toArray ∧ ¬ (j < 0 ∨ c.slots.size ≤ j.toNatClampNeg) := by
  obtain ⟨c, A, e, -⟩ := A
  exact ⟨c, A, e, fun q => q.elim hj fun q => by rw [e] at q; simp at q; omega⟩
theorem ne_lt {x z : Addr} {H : Heap} (p : x < H.size) (q : z = H.size) : x ≠ z := fun e => by rw [e, q] at p; exact Nat.lt_irrefl _ p
end Facts
theorem newArr {aty : ArrayType} {z : Int32} {cap : Nat} (r : Rch l Z n0 R y bytes mx rt D h k n pc Ls (.int z :: st)) (hd : decode bytes pc = .ok (.newarray aty, 2)) (w : (Jvm.Cond.arrayClass (newarray.typeOf aty)).before a0 Z = true) (hz : ¬ z < 0) (hcap : z.toNatClampNeg ≤ cap) (h8 : cap * 8 ≤ 536870912) (hc : k + 1 ≤ R.cells) (hl : n + cap ≤ R.slots) :
    ∃ h', (Ext h h' ∧ VA Z h' h.size (newarray.typeOf aty) (List.replicate z.toNatClampNeg (defaultValue (newarray.typeOf aty)))) ∧ Rch l Z n0 R y bytes mx rt D h' (k + 1) (n + cap) (pc + 2) Ls (.ref h.size :: st) :=
  r.mv (P := fun h' => Ext h h' ∧ VA Z h' h.size (newarray.typeOf aty) (List.replicate z.toNatClampNeg (defaultValue (newarray.typeOf aty)))) (st' := fun _ => .ref h.size :: st) fun X hx b _ _ hZ ho eT N => by
    obtain ⟨T', h', cA, X', e', E', A', s'⟩ := newP X hx hZ w eT (g := mkF _ pc Ls (.int z :: st)) rfl (hb b hd) rfl hz hcap h8 hc hl
    exact ⟨T', h', _, X', e', ⟨E', VA.new A' hz⟩, N, s' _ (Steps.refl _)⟩
theorem newRef {C : String} {index : Nat} {z : Int32} {cap : Nat} (r : Rch l Z n0 R y bytes mx rt D h k n pc Ls (.int z :: st)) (hd : decode bytes pc = .ok (.anewarray index, 3)) (w1 : (Jvm.Cond.classLink y.cls index C).before a0 Z = true) (w2 : (Jvm.Cond.arrayOver (.object C)).before a0 Z = true) (hz : ¬ z < 0) (hcap : z.toNatClampNeg ≤ cap) (h8 : cap * 8 ≤ 536870912) (hc : k + 1 ≤ R.cells) (hl : n + cap ≤ R.slots) :
    ∃ h', (Ext h h' ∧ VA Z h' h.size (.object C) (List.replicate z.toNatClampNeg .null)) ∧ Rch l Z n0 R y bytes mx rt D h' (k + 1) (n + cap) (pc + 3) Ls (.ref h.size :: st) :=
  r.mv (P := fun h' => Ext h h' ∧ VA Z h' h.size (.object C) (List.replicate z.toNatClampNeg .null)) (st' := fun _ => .ref h.size :: st) fun X hx b _ _ hZ ho eT N => by
    obtain ⟨T', h', cA, X', e', E', A', -, s'⟩ := newR X hx hZ ho w1 w2 eT (g := mkF _ pc Ls (.int z :: st)) rfl (hb b hd) rfl hz hcap h8 hc hl
    exact ⟨T', h', _, X', e', ⟨E', VA.new A' hz⟩, N, s' _ (Steps.refl _)⟩
theorem arrlen {a : Addr} {ty : FieldType} {vs : List Value} {z : Int32} (r : Rch l Z n0 R y bytes mx rt D h k n pc Ls (.ref a :: st)) (hd : decode bytes pc = .ok (.arraylength, 1)) (A : VA Z h a ty vs) (hz : vs.length.toInt32 = z) : Rch l Z n0 R y bytes mx rt D h k n (pc + 1) Ls (.int z :: st) := by
  subst hz
  obtain ⟨c, A, e, -⟩ := A
  have q : vs.length = c.slots.size := by rw [e]; simp
  rw [q]
  exact r.go fun X hx b hZ _ eT t q => X.arraylength hx (by rw [eT]; exact A.1) (State.isArrayOf_alike hZ.alike A.2.1) (g := mkF _ pc Ls (.ref a :: st)) rfl rfl (hb b hd) t q
theorem iaload {a : Addr} {vs : List Value} {j : Int32} {v : Value} (r : Rch l Z n0 R y bytes mx rt D h k n pc Ls (.int j :: .ref a :: st)) (hd : decode bytes pc = .ok (.iaload, 1)) (A : VA Z h a .int vs) (hj : ¬ j < 0) (hv : vs[j.toNatClampNeg]? = some v) : Rch l Z n0 R y bytes mx rt D h k n (pc + 1) Ls (v :: st) := by
  obtain ⟨c, A, e, hi⟩ := A.inb hj (List.getElem?_eq_some_iff.mp hv).1
  exact r.go fun X hx b hZ _ eT t q => X.iaload hx (j := j) (v := v) (by rw [eT]; exact A.1) (State.isArrayOf_alike hZ.alike A.2.1) A.2.2 hi (by rw [e]; simpa using hv) (g := mkF _ pc Ls (.int j :: .ref a :: st)) rfl rfl (hb b hd) t q
theorem laload {a : Addr} {vs : List Value} {j : Int32} {v : Value} (r : Rch l Z n0 R y bytes mx rt D h k n pc Ls (.int j :: .ref a :: st)) (hd : decode bytes pc = .ok (.laload, 1)) (A : VA Z h a .long vs) (hj : ¬ j < 0) (hv : vs[j.toNatClampNeg]? = some v) : Rch l Z n0 R y bytes mx rt D h k n (pc + 1) Ls (v :: st) := by
  obtain ⟨c, A, e, hi⟩ := A.inb hj (List.getElem?_eq_some_iff.mp hv).1
  exact r.go fun X hx b hZ _ eT t q => X.laload hx (j := j) (v := v) (by rw [eT]; exact A.1) (State.isArrayOf_alike hZ.alike A.2.1) A.2.2 hi (by rw [e]; simpa using hv) (g := mkF _ pc Ls (.int j :: .ref a :: st)) rfl rfl (hb b hd) t q
theorem caload {a : Addr} {vs : List Value} {j : Int32} {v : Value} (r : Rch l Z n0 R y bytes mx rt D h k n pc Ls (.int j :: .ref a :: st)) (hd : decode bytes pc = .ok (.caload, 1)) (A : VA Z h a .char vs) (hj : ¬ j < 0) (hv : vs[j.toNatClampNeg]? = some v) : Rch l Z n0 R y bytes mx rt D h k n (pc + 1) Ls (v :: st) := by
  obtain ⟨c, A, e, hi⟩ := A.inb hj (List.getElem?_eq_some_iff.mp hv).1
  exact r.go fun X hx b hZ _ eT t q => X.caload hx (j := j) (v := v) (by rw [eT]; exact A.1) (State.isArrayOf_alike hZ.alike A.2.1) A.2.2 hi (by rw [e]; simpa using hv) (g := mkF _ pc Ls (.int j :: .ref a :: st)) rfl rfl (hb b hd) t q
theorem baload {a : Addr} {vs : List Value} {j : Int32} {v : Value} (r : Rch l Z n0 R y bytes mx rt D h k n pc Ls (.int j :: .ref a :: st)) (hd : decode bytes pc = .ok (.baload, 1)) (A : VA Z h a .byte vs) (hj : ¬ j < 0) (hv : vs[j.toNatClampNeg]? = some v) : Rch l Z n0 R y bytes mx rt D h k n (pc + 1) Ls (v :: st) := by
  obtain ⟨c, A, e, hi⟩ := A.inb hj (List.getElem?_eq_some_iff.mp hv).1
  exact r.go fun X hx b hZ _ eT t q => X.baloadBytes hx (j := j) (v := v) (by rw [eT]; exact A.1) (State.isArrayOf_alike hZ.alike A.2.1) A.2.2 hi (by rw [e]; simpa using hv) (g := mkF _ pc Ls (.int j :: .ref a :: st)) rfl rfl (hb b hd) t q
theorem zaload {a : Addr} {vs : List Value} {j : Int32} {v : Value} (r : Rch l Z n0 R y bytes mx rt D h k n pc Ls (.int j :: .ref a :: st)) (hd : decode bytes pc = .ok (.baload, 1)) (A : VA Z h a .boolean vs) (hj : ¬ j < 0) (hv : vs[j.toNatClampNeg]? = some v) : Rch l Z n0 R y bytes mx rt D h k n (pc + 1) Ls (v :: st) := by
  obtain ⟨c, A, e, hi⟩ := A.inb hj (List.getElem?_eq_some_iff.mp hv).1
  exact r.go fun X hx b hZ _ eT t q => X.baloadBooleans hx (j := j) (v := v) (by rw [eT]; exact A.1) (State.isArrayOf_alike hZ.alike A.2.1) A.2.2 hi (by rw [e]; simpa using hv) (g := mkF _ pc Ls (.int j :: .ref a :: st)) rfl rfl (hb b hd) t q
theorem iastore {a : Addr} {vs : List Value} {j : Int32} {x : Int32} (r : Rch l Z n0 R y bytes mx rt D h k n pc Ls (.int x :: .int j :: .ref a :: st)) (hd : decode bytes pc = .ok (.iastore, 1)) (A : VA Z h a .int vs) (hj : ¬ j < 0) (hlt : j.toNatClampNeg < vs.length) (hg : n0 ≤ a) :
    ∃ h', (Wr h h' a j.toNatClampNeg (.int x) ∧ VA Z h' a .int (vs.set j.toNatClampNeg (.int x))) ∧ Rch l Z n0 R y bytes mx rt D h' k n (pc + 1) Ls st :=
  r.mv (P := fun h' => Wr h h' a j.toNatClampNeg (.int x) ∧ VA Z h' a .int (vs.set j.toNatClampNeg (.int x))) (st' := fun _ => st) fun X hx b _ _ hZ ho eT N => by
    obtain ⟨c, A', e, hi⟩ := A.inb hj hlt
    obtain ⟨T', h', X', e', W, s'⟩ := stI X hx hZ eT A' (j := j) hi (g := mkF _ pc Ls (.int x :: .int j :: .ref a :: st)) rfl rfl (hb b hd)
    exact ⟨T', h', _, X', e', ⟨W, A.set W⟩, Fr.snoc X' N hg, s' _ (Steps.refl _)⟩
theorem lastore {a : Addr} {vs : List Value} {j : Int32} {x : Int64} (r : Rch l Z n0 R y bytes mx rt D h k n pc Ls (.long x :: .int j :: .ref a :: st)) (hd : decode bytes pc = .ok (.lastore, 1)) (A : VA Z h a .long vs) (hj : ¬ j < 0) (hlt : j.toNatClampNeg < vs.length) (hg : n0 ≤ a) :
    ∃ h', (Wr h h' a j.toNatClampNeg (.long x) ∧ VA Z h' a .long (vs.set j.toNatClampNeg (.long x))) ∧ Rch l Z n0 R y bytes mx rt D h' k n (pc + 1) Ls st :=
  r.mv (P := fun h' => Wr h h' a j.toNatClampNeg (.long x) ∧ VA Z h' a .long (vs.set j.toNatClampNeg (.long x))) (st' := fun _ => st) fun X hx b _ _ hZ ho eT N => by
    obtain ⟨c, A', e, hi⟩ := A.inb hj hlt
    obtain ⟨T', h', X', e', W, s'⟩ := stJ X hx hZ eT A' (j := j) hi (g := mkF _ pc Ls (.long x :: .int j :: .ref a :: st)) rfl rfl (hb b hd)
    exact ⟨T', h', _, X', e', ⟨W, A.set W⟩, Fr.snoc X' N hg, s' _ (Steps.refl _)⟩
theorem castore {a : Addr} {vs : List Value} {j : Int32} {x : Int32} (r : Rch l Z n0 R y bytes mx rt D h k n pc Ls (.int x :: .int j :: .ref a :: st)) (hd : decode bytes pc = .ok (.castore, 1)) (A : VA Z h a .char vs) (hj : ¬ j < 0) (hlt : j.toNatClampNeg < vs.length) (hg : n0 ≤ a) :
    ∃ h', (Wr h h' a j.toNatClampNeg (.int (nar .char x)) ∧ VA Z h' a .char (vs.set j.toNatClampNeg (.int (nar .char x)))) ∧ Rch l Z n0 R y bytes mx rt D h' k n (pc + 1) Ls st :=
  r.mv (P := fun h' => Wr h h' a j.toNatClampNeg (.int (nar .char x)) ∧ VA Z h' a .char (vs.set j.toNatClampNeg (.int (nar .char x)))) (st' := fun _ => st) fun X hx b _ _ hZ ho eT N => by
    obtain ⟨c, A', e, hi⟩ := A.inb hj hlt
    obtain ⟨T', h', X', e', W, s'⟩ := stC X hx hZ eT A' (j := j) hi (g := mkF _ pc Ls (.int x :: .int j :: .ref a :: st)) rfl rfl (hb b hd)
    exact ⟨T', h', _, X', e', ⟨W, A.set W⟩, Fr.snoc X' N hg, s' _ (Steps.refl _)⟩
theorem bastore {a : Addr} {vs : List Value} {j : Int32} {x : Int32} (r : Rch l Z n0 R y bytes mx rt D h k n pc Ls (.int x :: .int j :: .ref a :: st)) (hd : decode bytes pc = .ok (.bastore, 1)) (A : VA Z h a .byte vs) (hj : ¬ j < 0) (hlt : j.toNatClampNeg < vs.length) (hg : n0 ≤ a) :
    ∃ h', (Wr h h' a j.toNatClampNeg (.int (nar .byte x)) ∧ VA Z h' a .byte (vs.set j.toNatClampNeg (.int (nar .byte x)))) ∧ Rch l Z n0 R y bytes mx rt D h' k n (pc + 1) Ls st :=
  r.mv (P := fun h' => Wr h h' a j.toNatClampNeg (.int (nar .byte x)) ∧ VA Z h' a .byte (vs.set j.toNatClampNeg (.int (nar .byte x)))) (st' := fun _ => st) fun X hx b _ _ hZ ho eT N => by
    obtain ⟨c, A', e, hi⟩ := A.inb hj hlt
    obtain ⟨T', h', X', e', W, s'⟩ := stB X hx hZ eT A' (j := j) hi (g := mkF _ pc Ls (.int x :: .int j :: .ref a :: st)) rfl rfl (hb b hd)
    exact ⟨T', h', _, X', e', ⟨W, A.set W⟩, Fr.snoc X' N hg, s' _ (Steps.refl _)⟩
theorem zastore {a : Addr} {vs : List Value} {j : Int32} {x : Int32} (r : Rch l Z n0 R y bytes mx rt D h k n pc Ls (.int x :: .int j :: .ref a :: st)) (hd : decode bytes pc = .ok (.bastore, 1)) (A : VA Z h a .boolean vs) (hj : ¬ j < 0) (hlt : j.toNatClampNeg < vs.length) (hg : n0 ≤ a) :
    ∃ h', (Wr h h' a j.toNatClampNeg (.int (nar .boolean x)) ∧ VA Z h' a .boolean (vs.set j.toNatClampNeg (.int (nar .boolean x)))) ∧ Rch l Z n0 R y bytes mx rt D h' k n (pc + 1) Ls st :=
  r.mv (P := fun h' => Wr h h' a j.toNatClampNeg (.int (nar .boolean x)) ∧ VA Z h' a .boolean (vs.set j.toNatClampNeg (.int (nar .boolean x)))) (st' := fun _ => st) fun X hx b _ _ hZ ho eT N => by
    obtain ⟨c, A', e, hi⟩ := A.inb hj hlt
    obtain ⟨T', h', X', e', W, s'⟩ := stZ X hx hZ eT A' (j := j) hi (g := mkF _ pc Ls (.int x :: .int j :: .ref a :: st)) rfl rfl (hb b hd)
    exact ⟨T', h', _, X', e', ⟨W, A.set W⟩, Fr.snoc X' N hg, s' _ (Steps.refl _)⟩
/-! the end -/
theorem Rch.ret0 (r : Rch l Z n0 R y bytes mx none D h k n pc Ls []) (hd : decode bytes pc = .ok (.return_, 1)) : Don l Z n0 R D h k n none := by
  obtain ⟨p, e, s, m, args, below, meth, c, s₁, g0⟩ := D
  obtain ⟨⟨hx, hbb, hml, ho, hZ, hr, hlk, hnm⟩, T, locs, X, eT, N, hs⟩ := r
  obtain ⟨fs, hl, hrun, hended, hW, hsame⟩ := X.leave (v := none) (fun _ => rfl) hlk
  exact ⟨T, locs, fs, X, eT, N, hs.trans (X.returnOut hx hr (hb hbb hd) hl), eT, hrun, hended, hW, hsame⟩
theorem Rch.retV {i : Instr} {t : FieldType} {w : Value} (r : Rch l Z n0 R y bytes mx (some t) D h k n pc Ls (w :: st)) (hd : decode bytes pc = .ok (i, 1)) (hn : narrow t w = w)
    (hi : (i = .ireturn ∧ (t = .int ∨ t = .boolean ∨ t = .byte ∨ t = .char ∨ t = .short) ∧ ∃ z, w = .int z) ∨ (i = .lreturn ∧ t = .long ∧ ∃ z, w = .long z) ∨ (i = .dreturn ∧ t = .double ∧ ∃ z, w = .double z) ∨ (i = .freturn ∧ t = .float ∧ ∃ z, w = .float z) ∨ (i = .areturn ∧ t.isReference = true ∧ w.isRef = true)) : Don l Z n0 R D h k n (some w) := by
  obtain ⟨p, e, s, m, args, below, meth, c, s₁, g0⟩ := D
  obtain ⟨⟨hx, hbb, hml, ho, hZ, hr, hlk, hnm⟩, T, locs, X, eT, N, hs⟩ := r
  obtain ⟨fs, hl, hrun, hended, hW, hsame⟩ := X.leave (v := some w) (fun q => by rw [hr] at q; cases q) hlk
  exact ⟨T, locs, fs, X, eT, N, hs.trans (retOut X hx hr hn hi (hb hbb hd) hl), eT, hrun, hended, hW, hsame⟩
theorem Rch.retI {z : Int32} (r : Rch l Z n0 R y bytes mx (some .int) D h k n pc Ls (.int z :: st)) (hd : decode bytes pc = .ok (.ireturn, 1)) : Don l Z n0 R D h k n (some (.int z)) := r.retV hd rfl (Or.inl ⟨rfl, Or.inl rfl, z, rfl⟩)
theorem Rch.retJ {z : Int64} (r : Rch l Z n0 R y bytes mx (some .long) D h k n pc Ls (.long z :: st)) (hd : decode bytes pc = .ok (.lreturn, 1)) : Don l Z n0 R D h k n (some (.long z)) := r.retV hd rfl (Or.inr (Or.inl ⟨rfl, rfl, z, rfl⟩))
theorem Rch.retZ {z : Int32} (r : Rch l Z n0 R y bytes mx (some .boolean) D h k n pc Ls (.int z :: st)) (hd : decode bytes pc = .ok (.ireturn, 1)) (hz : z &&& 1 = z) : Don l Z n0 R D h k n (some (.int z)) := r.retV hd (congrArg Value.int hz) (Or.inl ⟨rfl, Or.inr (Or.inl rfl), z, rfl⟩)
theorem Rch.retB {z : Int32} (r : Rch l Z n0 R y bytes mx (some .byte) D h k n pc Ls (.int z :: st)) (hd : decode bytes pc = .ok (.ireturn, 1)) (hz : z.toInt8.toInt32 = z) : Don l Z n0 R D h k n (some (.int z)) := r.retV hd (congrArg Value.int hz) (Or.inl ⟨rfl, Or.inr (Or.inr (Or.inl rfl)), z, rfl⟩)
theorem Rch.retA {t : FieldType} {w : Value} (r : Rch l Z n0 R y bytes mx (some t) D h k n pc Ls (w :: st)) (hd : decode bytes pc = .ok (.areturn, 1)) (ht : t.isReference = true) (hw : w.isRef = true) : Don l Z n0 R D h k n (some w) := r.retV hd (by rcases ref_cases hw with rfl | ⟨q, rfl⟩ <;> cases t <;> first | rfl | cases ht) (Or.inr (Or.inr (Or.inr (Or.inr ⟨rfl, ht, hw⟩))))
theorem Don.more {v : Option Value} (r : Don l Z n0 R D h k n v) {k' n' : Nat} (hk : k ≤ k') (hn : n ≤ n') : Don l Z n0 R D h k' n' v := by
  obtain ⟨p, e, s, m, args, below, meth, c, s₁, g0⟩ := D
  obtain ⟨T, locs, fs, X, eT, N, hs, hh, hrun, hend, hW, hsame⟩ := r
  exact ⟨T, locs, fs, X.more hk hn, eT, N, hs, hh, hrun, hend, hW, hsame.mono hk hn⟩
/-! calls -/
section Calls
variable {index : Nat} {y' : MethodName} {bytes' : ByteArray} {mx' : Nat} {rt' : Option FieldType} {rm : Room} {as' : Array Value} {Q : Option Value → Heap → Prop} {W : Nat} {rest : List Value}
theorem callS (argsL : List Value) (r : Rch l Z n0 R y bytes mx rt D h k n pc Ls st) (hd : decode bytes pc = .ok (.invokestatic index, 3)) (K : Con l Z n0 y' bytes' mx' rt' rm as' h Q) (w1 : (Jvm.Cond.methodLink y.cls index y').before a0 Z = true) (w2 : (Jvm.Cond.static y').before a0 Z = true) (w3 : (Jvm.Cond.initialized y'.cls).before a0 Z = true) (w4 : (Jvm.Cond.code y' bytes' mx' rt').before a0 Z = true)
    (hlen : ∀ sig, parseMethodDescriptor y'.desc = some sig → argsL.length = sig.parameters.length) (has : argsL.toArray = as') (hst : st = argsL.reverse ++ rest) (hW : (rest.map fun v => v.category).sum ≤ W) (hsz : Ls.size = mx) (hy : y'.cls ≠ "java/lang/invoke/MethodHandle" ∧ y'.cls ≠ "java/lang/invoke/VarHandle") (hf : rm.frames + 1 ≤ R.frames) (hlo : W + (mx' + 11) + rm.locals ≤ R.locals) (hc : k + rm.cells ≤ R.cells) (hs : n + rm.slots ≤ R.slots) :
    ∃ v h', Q v h' ∧ Rch l Z n0 R y bytes mx rt D h' (k + rm.cells) (n + rm.slots) (pc + 3) Ls (v.toList ++ rest) := by
  obtain ⟨p, e, s, m, args, below, meth, c, s₁, g0⟩ := D
  obtain ⟨hB, T, locs, X, eT, N, hs0⟩ := r
  obtain ⟨hx, hbb, hml, ho, hZ, hr, hlk, hnm⟩ := id hB
  subst hst
  obtain ⟨v, vm₁, ⟨T', L', k', n'⟩, -, X', ⟨Lc, ⟨N', hQ⟩, l1, y1, z1⟩, s'⟩ := Jvm.LawKit.callS X hx (y := y') ho (mvT hZ w1) (mvT hZ w2) (mvT hZ w3) (mvT hZ w4) hy (backOf (W := W) (Q := fun v h L => Fr n0 L ∧ Q v h) (K []) hZ w4 w3 hf hlo) (g := mkF m pc Ls (argsL.reverse ++ rest)) rfl (hsz.trans hml.symm) (argsL := argsL) (rest := rest) hlen rfl (by show 2 * 0 + _ ≤ _; omega) (hb hbb hd) (fun _ _ => ⟨has, eT, hc, hs⟩)
  dsimp only [Pt.U, Pt.locs, Pt.cells, Pt.slots] at X' l1 y1 z1 s' hQ
  subst l1 y1 z1
  exact ⟨v, T'.heap, hQ, hB, T', _, X', rfl, Fr.app N N', hs0.trans (s' _ (Steps.refl _))⟩
theorem callI {a : Addr} (argsL : List Value) (r : Rch l Z n0 R y bytes mx rt D h k n pc Ls st) (hd : decode bytes pc = .ok (.invokespecial index, 3)) (K : Con l Z n0 y' bytes' mx' none rm as' h Q) (w1 : (Jvm.Cond.methodLink y.cls index y').before a0 Z = true) (w2 : (Jvm.Cond.instanceMethod y').before a0 Z = true) (w3 : (Jvm.Cond.initialized y'.cls).before a0 Z = true) (w4 : (Jvm.Cond.code y' bytes' mx' none).before a0 Z = true) (hin : y'.name = "<init>")
    (hlen : ∀ sig, parseMethodDescriptor y'.desc = some sig → argsL.length = sig.parameters.length) (has : (.ref a :: argsL).toArray = as') (hst : st = argsL.reverse ++ .ref a :: rest) (hW : (rest.map fun v => v.category).sum ≤ W) (hsz : Ls.size = mx) (hy : y'.cls ≠ "java/lang/invoke/MethodHandle" ∧ y'.cls ≠ "java/lang/invoke/VarHandle") (hf : rm.frames + 1 ≤ R.frames) (hlo : W + (mx' + 11) + rm.locals ≤ R.locals) (hc : k + rm.cells ≤ R.cells) (hs : n + rm.slots ≤ R.slots) :
    ∃ v h', Q v h' ∧ Rch l Z n0 R y bytes mx rt D h' (k + rm.cells) (n + rm.slots) (pc + 3) Ls (v.toList ++ rest) := by
  obtain ⟨p, e, s, m, args, below, meth, c, s₁, g0⟩ := D
  obtain ⟨hB, T, locs, X, eT, N, hs0⟩ := r
  obtain ⟨hx, hbb, hml, ho, hZ, hr, hlk, hnm⟩ := id hB
  subst hst
  obtain ⟨v, vm₁, ⟨T', L', k', n'⟩, -, X', ⟨Lc, ⟨N', hQ⟩, l1, y1, z1⟩, s'⟩ := X.specialBack hx (y := y') hin ho (mvT hZ w1) (mvT hZ w2) (mvT hZ w4) hy (backOf (W := W) (Q := fun v h L => Fr n0 L ∧ Q v h) (K []) hZ w4 w3 hf hlo) (g := mkF m pc Ls (argsL.reverse ++ .ref a :: rest)) rfl (hsz.trans hml.symm) (Steps.refl _) (a := a) (argsL := argsL) (rest := rest) hlen rfl (by show 2 * 0 + _ ≤ _; omega) (hb hbb hd) (fun _ _ => ⟨has, eT, hc, hs⟩)
  dsimp only [Pt.U, Pt.locs, Pt.cells, Pt.slots] at X' l1 y1 z1 s' hQ
  subst l1 y1 z1
  exact ⟨v, T'.heap, hQ, hB, T', _, X', rfl, Fr.app N N', hs0.trans s'⟩
theorem callV {a : Addr} {yr : MethodName} {C : String} (argsL : List Value) (r : Rch l Z n0 R y bytes mx rt D h k n pc Ls st) (hd : decode bytes pc = .ok (.invokevirtual index, 3)) (K : Con l Z n0 y' bytes' mx' rt' rm as' h Q) (E : Exa Z h a C) (w1 : (Jvm.Cond.methodLink y.cls index yr).before a0 Z = true) (w2 : (Jvm.Cond.declares yr).before a0 Z = true) (nf : ∀ s : State, Z.Warmed39 s.vm → NotFace s yr) (w5 : (Jvm.Cond.selects C yr y').before a0 Z = true) (w6 : (Jvm.Cond.instanceMethod y').before a0 Z = true) (w3 : (Jvm.Cond.initialized y'.cls).before a0 Z = true) (w4 : (Jvm.Cond.code y' bytes' mx' rt').before a0 Z = true)
    (hlen : ∀ sig, parseMethodDescriptor yr.desc = some sig → argsL.length = sig.parameters.length) (has : (.ref a :: argsL).toArray = as') (hst : st = argsL.reverse ++ .ref a :: rest) (hW : (rest.map fun v => v.category).sum ≤ W) (hsz : Ls.size = mx) (hy : yr.cls ≠ "java/lang/invoke/MethodHandle" ∧ yr.cls ≠ "java/lang/invoke/VarHandle") (hf : rm.frames + 1 ≤ R.frames) (hlo : W + (mx' + 11) + rm.locals ≤ R.locals) (hc : k + rm.cells ≤ R.cells) (hs : n + rm.slots ≤ R.slots) :
    ∃ v h', Q v h' ∧ Rch l Z n0 R y bytes mx rt D h' (k + rm.cells) (n + rm.slots) (pc + 3) Ls (v.toList ++ rest) := by
  obtain ⟨p, e, s, m, args, below, meth, c, s₁, g0⟩ := D
  obtain ⟨hB, T, locs, X, eT, N, hs0⟩ := r
  obtain ⟨hx, hbb, hml, ho, hZ, hr, hlk, hnm⟩ := id hB
  subst hst
  obtain ⟨cq, kq, qa, qb, qc⟩ := isOf hZ eT E
  obtain ⟨v, vm₁, ⟨T', L', k', n'⟩, -, X', ⟨Lc, ⟨N', hQ⟩, l1, y1, z1⟩, s'⟩ := X.virtualBack hx (y := yr) (z := y') ho (mvT hZ w1) (mvT hZ w2) (nf s hZ) (mvT hZ w5) (mvT hZ w6) hy (backOf (W := W) (Q := fun v h L => Fr n0 L ∧ Q v h) (K []) hZ w4 w3 hf hlo) qa qc (g := mkF m pc Ls (argsL.reverse ++ .ref a :: rest)) rfl (hsz.trans hml.symm) (Steps.refl _) (argsL := argsL) (rest := rest) hlen rfl (by show 2 * 0 + _ ≤ _; omega) (hb hbb hd) (fun _ _ => ⟨has, eT, hc, hs⟩)
  dsimp only [Pt.U, Pt.locs, Pt.cells, Pt.slots] at X' l1 y1 z1 s' hQ
  subst l1 y1 z1
  exact ⟨v, T'.heap, hQ, hB, T', _, X', rfl, Fr.app N N', hs0.trans s'⟩
theorem nfS {yr : MethodName} {C : String} (w : (Jvm.Cond.selects C yr yr).before a0 Z = true) : ∀ s : State, Z.Warmed39 s.vm → NotFace s yr := fun s hZ => notFace_of_selects (args := #[]) (mvT hZ w)
theorem callP {a : Addr} {C : String} (argsL : List Value) (r : Rch l Z n0 R y bytes mx rt D h k n pc Ls st) (hd : decode bytes pc = .ok (.invokevirtual index, 3)) (K : Con l Z n0 y' bytes' mx' rt' rm as' h Q) (E : Exa Z h a C) (w1 : (Jvm.Cond.methodLink y.cls index y').before a0 Z = true) (w6 : (Jvm.Cond.instanceMethod y').before a0 Z = true) {kk : Nat} (wi : (Jvm.Cond.instantiable y'.cls kk).before a0 Z = true) (w7 : (Jvm.Cond.privateMethod y').before a0 Z = true) (w3 : (Jvm.Cond.initialized y'.cls).before a0 Z = true) (w4 : (Jvm.Cond.code y' bytes' mx' rt').before a0 Z = true)
    (hlen : ∀ sig, parseMethodDescriptor y'.desc = some sig → argsL.length = sig.parameters.length) (has : (.ref a :: argsL).toArray = as') (hst : st = argsL.reverse ++ .ref a :: rest) (hW : (rest.map fun v => v.category).sum ≤ W) (hsz : Ls.size = mx) (hy : y'.cls ≠ "java/lang/invoke/MethodHandle" ∧ y'.cls ≠ "java/lang/invoke/VarHandle") (hf : rm.frames + 1 ≤ R.frames) (hlo : W + (mx' + 11) + rm.locals ≤ R.locals) (hc : k + rm.cells ≤ R.cells) (hs : n + rm.slots ≤ R.slots) :
    ∃ v h', Q v h' ∧ Rch l Z n0 R y bytes mx rt D h' (k + rm.cells) (n + rm.slots) (pc + 3) Ls (v.toList ++ rest) := by
  obtain ⟨p, e, s, m, args, below, meth, c, s₁, g0⟩ := D
  obtain ⟨hB, T, locs, X, eT, N, hs0⟩ := r
  obtain ⟨hx, hbb, hml, ho, hZ, hr, hlk, hnm⟩ := id hB
  subst hst
  obtain ⟨cq, q1, q2⟩ := E.cell
  have hpv : s.PrivateAt y' := Cond.privateMethod_at (mvP hZ w7 (args := #[]))
  obtain ⟨ci, ki, i1, i2, -, i4, -, -⟩ := Cond.instantiable_spec (mvT (args := args) hZ wi)
  have hni : ki.isInterface = false := by
    cases q : ki.isInterface with
    | false => rfl
    | true => rw [q] at i4; simp at i4
  have hsel := selects_self_of_private (args := args) i1 i2 hni hpv (mvT hZ w6) hy
  obtain ⟨v, vm₁, ⟨T', L', k', n'⟩, -, X', ⟨Lc, ⟨N', hQ⟩, l1, y1, z1⟩, s'⟩ := X.privateBack hx (y := y') ho (mvT hZ w1) (mvT hZ w6) hsel hpv (mvT hZ w4) hy (backOf (W := W) (Q := fun v h L => Fr n0 L ∧ Q v h) (K []) hZ w4 w3 hf hlo) (g := mkF m pc Ls (argsL.reverse ++ .ref a :: rest)) rfl (hsz.trans hml.symm) (Steps.refl _) (a := a) (by rw [eT]; exact q1) q2 (argsL := argsL) (rest := rest) hlen rfl (by show 2 * 0 + _ ≤ _; omega) (hb hbb hd) (fun _ _ => ⟨has, eT, hc, hs⟩)
  dsimp only [Pt.U, Pt.locs, Pt.cells, Pt.slots] at X' l1 y1 z1 s' hQ
  subst l1 y1 z1
  exact ⟨v, T'.heap, hQ, hB, T', _, X', rfl, Fr.app N N', hs0.trans s'⟩
end Calls
/-! a walk that resolves a String constant: the start's tables are re-based -/
def Reb (D0 D : Dyn) (h : Heap) : Prop := match D0 with
  | (p, e, s, m, args, below, meth, c, s₁, g0) => ∃ (vm' : Vm) (n : Nat), s.Since vm' n ∧ n ≤ h.size ∧ D = (p, e, s.setVm vm', m, args, below, meth, c, s₁, g0)
theorem Reb.refl (D : Dyn) (h : Heap) : Reb D D h := by
  obtain ⟨p, e, s, m, args, below, meth, c, s₁, g0⟩ := D
  exact ⟨s.vm, h.size, (State.WarmedH.refl s).since _, Nat.le_refl _, rfl⟩
theorem Reb.grow {D0 D : Dyn} (B : Reb D0 D h) (q : h.size ≤ h'.size) : Reb D0 D h' := by
  obtain ⟨p, e, s, m, args, below, meth, c, s₁, g0⟩ := D0
  obtain ⟨vm', n, h1, h2, h3⟩ := B
  exact ⟨vm', n, h1, Nat.le_trans h2 q, h3⟩
theorem ldcStr {D0 : Dyn} {text : String} {index nn : Nat} (r : Rch l Z n0 R y bytes mx rt D h k n pc Ls st) (B : Reb D0 D h) (hd : decode bytes pc = .ok (.ldc index, 2)) (w : (Jvm.Cond.stringLink y.cls index text).before a0 Z = true) (wS : ∀ a ∈ Bundle.stringAtoms, a.before a0 Z = true) (hn : 4 * text.toList.length ≤ nn) (hbig : nn ≤ 536870912) (hc : k + 2 ≤ R.cells) (hl : n + (nn + 4) ≤ R.slots) :
    ∃ (D' : Dyn) (h' : Heap) (a : Addr), Reb D0 D' h' ∧ Ext h h' ∧ Rch l Z n0 R y bytes mx rt D' h' (k + 2) (n + (nn + 4)) (pc + 2) Ls (.ref a :: st) := by
  obtain ⟨p, e, s, m, args, below, meth, c, s₁, g0⟩ := D0
  obtain ⟨vm0, n1, hS, hk, rfl⟩ := B
  obtain ⟨hB, T, locs, X, eT, N, hs0⟩ := r
  obtain ⟨hx, hbb, hml, ho, hZ, hr, hlk, hnm⟩ := hB
  obtain ⟨a, T', h', k1, X', e', E, hS', hk', hZ', ho', st'⟩ := ldcS X hx hZ ho w wS eT hS hk (g := mkF m pc Ls st) rfl (hb hbb hd) hn hbig hc hl
  exact ⟨(p, e, s.setVm T'.vm, m, args, below, meth, c, s₁, g0), h', a, ⟨T'.vm, k1, hS', hk', rfl⟩, E, ⟨hx, hbb, hml, ho', hZ', hr, hlk, hnm⟩, T', locs, X', e', N, hs0.trans (st' _ (Steps.refl _))⟩
def ConW (l : Launch) (Z : State) (n0 : Nat) (y : MethodName) (bytes : ByteArray) (mx : Nat) (rt : Option FieldType) (rm : Room) (as' : Array Value) (h : Heap) (Q : Option Value → Heap → Prop) : Prop :=
  ∀ ws : List Jvm.Cond, MetFree l y (head1 (Jvm.Cond.code y bytes mx rt :: ws) rm) (fun a U => a = as' ∧ Z.Warmed39 U.vm ∧ U.heap = h) (fun _ _ _ _ _ => True) (fun _ U o U' => ∃ v L, o = .returned v ∧ (Fr n0 L ∧ Q v U'.heap) ∧ U.Warmed39 U'.vm ∧ U.Booked U'.vm U'.heap.size ∧ U.sameButNew ({ U' with vm := U.vm } : State) L rm.cells rm.slots)
theorem ConW.enter {rm : Room} {as' : Array Value} {Q : Option Value → Heap → Prop} (hp : plainFor y = true) (ef : ∀ m, entryFrame m as' mx = mkF m 0 Ls [])
    (f : ∀ D : Dyn, Rch l Z n0 rm y bytes mx rt D h 0 0 0 Ls [] → ∃ D' v h', Reb D D' h' ∧ Don l Z n0 rm D' h' rm.cells rm.slots v ∧ Q v h') : ConW l Z n0 y bytes mx rt rm as' h Q := by
  intro ws
  refine MetFree.of_bodySF hp hisR ?_
  intro p e s m args below meth c s₁ Bd hml0 hP hK
  obtain ⟨rfl, hZ, hh⟩ := hP
  have X0 : Stand p l e rm s m args below meth c s₁ [] 0 0 := Stand.of_body Bd
  have e0 : s₁.heap = h := by rw [← hh, Bd.state]; rfl
  obtain ⟨D', v, h', ⟨vm', n1, hS, hk, rfl⟩, hD, hQ⟩ := f (p, e, s, m, args, below, meth, c, s₁, mkF m 0 Ls []) ⟨⟨Bd.exec, Bd.bytes, hml0, findClass_of_methodNamed Bd.named, hZ, Bd.returns, Bd.notSynchronized, (name_of_methodNamed Bd.named Bd.method).1⟩, s₁, [], X0, e0, Fr.nil n0, Steps.refl _⟩
  obtain ⟨T, locs, fs, X, eT, N, hs, hh', hrun, hend, hW, hsame⟩ := hD
  obtain ⟨w1, w2, w3⟩ := hS.ended hW (by rw [hh']; exact hk) hsame
  exact ⟨_, _, castTop (ef m) hs, hrun, hend, v, locs, rfl, ⟨N, hh'.symm ▸ hQ⟩, w1, w2, w3⟩
end Kit
end Jvm.Own

namespace Jvm.Pilot.@@N@@
open Jvm Jvm.ClassFile Sem Op Lib Jvm.Free Jvm.Stand Jvm.LawKit Jvm.RoadKit Bundle Jvm.Pilot.@@N@@.Jvm.D

def own_P10 : List Int64 := [(1 : Int64), (10 : Int64), (100 : Int64), (1000 : Int64), (10000 : Int64), (100000 : Int64), (1000000 : Int64), (10000000 : Int64), (100000000 : Int64), (1000000000 : Int64), (10000000000 : Int64), (100000000000 : Int64), (1000000000000 : Int64), (10000000000000 : Int64), (100000000000000 : Int64), (1000000000000000 : Int64), (10000000000000000 : Int64), (100000000000000000 : Int64), (1000000000000000000 : Int64)]
def own_p10 (k : Int32) : Int64 := own_P10.getD k.toNatClampNeg 0
theorem own_p10in {p0 : Int32} (h0 : 0 ≤ p0.toInt) (h1 : p0.toInt ≤ 18) : ¬ p0 < 0 ∧ (own_P10.map Value.long)[p0.toNatClampNeg]? = some (.long (own_p10 p0)) := by
  refine ⟨by rw [Int32.lt_iff_toInt_lt]; have : (0 : Int32).toInt = 0 := rfl; omega, ?_⟩
  have q : p0.toNatClampNeg < own_P10.length := by show _ < 19; unfold Int32.toNatClampNeg; omega
  rw [List.getElem?_map, List.getElem?_eq_getElem q]
  simp [own_p10, q]
theorem own_p10N : ∀ k : Fin 19, (own_P10.getD k.val 0).toInt = ((10 ^ k.val : Nat) : Int) := by decide +kernel
theorem own_p10i {k : Int32} (h0 : 0 ≤ k.toInt) (h1 : k.toInt ≤ 18) : (own_p10 k).toInt = ((10 ^ k.toInt.toNat : Nat) : Int) := by
  have := own_p10N ⟨k.toInt.toNat, by omega⟩
  unfold own_p10 Int32.toNatClampNeg; exact this
theorem own_p10ne {k : Int32} (h0 : 0 ≤ k.toInt) (h1 : k.toInt ≤ 18) : own_p10 k ≠ 0 := fun q => by
  have e := own_p10i h0 h1
  rw [q] at e
  have : (0 : Int64).toInt = 0 := rfl
  have : 0 < (10 : Nat) ^ k.toInt.toNat := Nat.pow_pos (by decide)
  omega
theorem own_rb (x : Int32) : (Own.i2bW x).toInt8.toInt32 = Own.i2bW x := by unfold Own.i2bW; simp
def own_at (len pp dc : Int32) : Prop := 0 ≤ len.toInt ∧ len.toInt ≤ 20 ∧ -1 ≤ pp.toInt ∧ pp.toInt < len.toInt ∧ dc = (if pp < (0 : Int32) then len else (len - (1 : Int32)))
theorem own_z0 : (0 : Int32).toInt = 0 := rfl
theorem own_z1 : (1 : Int32).toInt = 1 := rfl
theorem own_sub1 {x : Int32} (h : -100 ≤ x.toInt) : (x - (1 : Int32)).toInt = x.toInt - 1 := by
  have := c_isub x 1; have := own_z1; have := x.toInt_lt; have := (x - 1).toInt_lt; have := (x - 1).le_toInt; omega
theorem own_subs {x y : Int32} (h1 : -1000 ≤ x.toInt) (h2 : x.toInt ≤ 1000) (h3 : -1000 ≤ y.toInt) (h4 : y.toInt ≤ 1000) : (x - y).toInt = x.toInt - y.toInt := by
  have := c_isub x y; have := (x - y).toInt_lt; have := (x - y).le_toInt; omega
theorem own_adds {x y : Int32} (h1 : -1000 ≤ x.toInt) (h2 : x.toInt ≤ 1000) (h3 : -1000 ≤ y.toInt) (h4 : y.toInt ≤ 1000) : (x + y).toInt = x.toInt + y.toInt := by
  have := c_iadd x y; have := (x + y).toInt_lt; have := (x + y).le_toInt; omega
theorem own_dc {len pp dc : Int32} (hA : own_at len pp dc) : (pp.toInt < 0 → dc.toInt = len.toInt) ∧ (0 ≤ pp.toInt → dc.toInt = len.toInt - 1) := by
  obtain ⟨h1, h2, h3, h4, rfl⟩ := hA
  have z := own_z0
  constructor
  · intro q; rw [if_pos (by rw [Int32.lt_iff_toInt_lt]; omega)]
  · intro q; rw [if_neg (by rw [Int32.lt_iff_toInt_lt]; omega)]; exact own_sub1 (by omega)
theorem own_rr {t pp m : Int32} (ht : 0 ≤ t.toInt) (em : m = (if pp < (0 : Int32) then t else (if pp < t then (t - (1 : Int32)) else t))) : (pp.toInt < 0 → m.toInt = t.toInt) ∧ (0 ≤ pp.toInt → pp.toInt < t.toInt → m.toInt = t.toInt - 1) ∧ (0 ≤ pp.toInt → t.toInt ≤ pp.toInt → m.toInt = t.toInt) := by
  have z := own_z0
  subst em
  refine ⟨fun q => ?_, fun q r => ?_, fun q r => ?_⟩
  · rw [if_pos (by rw [Int32.lt_iff_toInt_lt]; omega)]
  · rw [if_neg (by rw [Int32.lt_iff_toInt_lt]; omega), if_pos (by rw [Int32.lt_iff_toInt_lt]; omega)]; exact own_sub1 (by omega)
  · rw [if_neg (by rw [Int32.lt_iff_toInt_lt]; omega), if_neg (by rw [Int32.lt_iff_toInt_lt]; omega)]
theorem own_kv {len pp dc t m v : Int32} (hA : own_at len pp dc) (h1 : 0 ≤ t.toInt) (h2 : t.toInt < len.toInt) (h3 : t.toInt ≠ pp.toInt) (em : m = (if pp < (0 : Int32) then t else (if pp < t then (t - (1 : Int32)) else t))) (ev : v = ((dc - (1 : Int32)) - m)) : v.toInt = dc.toInt - 1 - m.toInt ∧ 0 ≤ v.toInt ∧ v.toInt ≤ 19 := by
  have d := own_dc hA
  have r := own_rr (pp := pp) h1 em
  obtain ⟨a1, a2, a3, a4, -⟩ := hA
  have e1 := own_sub1 (x := dc) (by omega)
  have e2 := own_subs (x := dc - 1) (y := m) (by omega) (by omega) (by omega) (by omega)
  rw [ev]
  omega
theorem own_k {len pp dc t m v : Int32} (hA : own_at len pp dc) (h1 : ¬ t < (0 : Int32)) (h2 : t < len) (h3 : ¬ t = pp) (em : m = (if pp < (0 : Int32) then t else (if pp < t then (t - (1 : Int32)) else t))) (ev : v = ((dc - (1 : Int32)) - m)) (h4 : v < (19 : Int32)) : 0 ≤ v.toInt ∧ v.toInt ≤ 18 := by
  have z := own_z0
  rw [Int32.lt_iff_toInt_lt] at h1 h2 h4
  have q := own_kv hA (by omega) h2 (fun q => h3 (Int32.toInt_inj.mp q)) em ev
  have : (19 : Int32).toInt = 19 := rfl
  omega
def own_ep (len pp dc w d p : Int32) : Prop := own_at len pp dc ∧ (pp.toInt < 0 → w.toInt = len.toInt ∧ d.toInt = 0) ∧ (0 ≤ pp.toInt → w.toInt = pp.toInt ∧ d.toInt = len.toInt - pp.toInt - 1) ∧ -4 ≤ p.toInt ∧ p.toInt ≤ 27
theorem own_e12 {len pp dc w d p : Int32} (hE : own_ep len pp dc w d p) (h1 : ¬ len = (0 : Int32)) (h2 : ¬ (19 : Int32) < len) (h3 : ¬ pp = (0 : Int32)) (h5 : ¬ p < d) (h6 : ¬ (18 : Int32) < (w + p)) : (0 ≤ dc.toInt ∧ dc.toInt ≤ 18) ∧ (p - d).toInt = p.toInt - d.toInt ∧ 0 ≤ p.toInt - d.toInt ∧ p.toInt - d.toInt ≤ 18 := by
  obtain ⟨hA, e1, e2, e3, e4⟩ := hE
  have dd := own_dc hA
  obtain ⟨a1, a2, a3, a4, -⟩ := hA
  have z := own_z0
  have : (18 : Int32).toInt = 18 := rfl; have : (19 : Int32).toInt = 19 := rfl
  rw [Int32.lt_iff_toInt_lt] at h2 h5 h6
  have n1 : len.toInt ≠ 0 := fun q => h1 (Int32.toInt_inj.mp q)
  have n3 : pp.toInt ≠ 0 := fun q => h3 (Int32.toInt_inj.mp q)
  have s := own_adds (x := w) (y := p) (by omega) (by omega) (by omega) (by omega)
  have s2 := own_subs (x := p) (y := d) (by omega) (by omega) (by omega) (by omega)
  omega
theorem own_e1 {len pp dc w d p : Int32} (hE : own_ep len pp dc w d p) (h1 : ¬ len = (0 : Int32)) (h2 : ¬ (19 : Int32) < len) (h3 : ¬ pp = (0 : Int32)) (h5 : ¬ p < d) (h6 : ¬ (18 : Int32) < (w + p)) : 0 ≤ dc.toInt ∧ dc.toInt ≤ 18 := (own_e12 hE h1 h2 h3 h5 h6).1
theorem own_e2 {len pp dc w d p : Int32} (hE : own_ep len pp dc w d p) (h1 : ¬ len = (0 : Int32)) (h2 : ¬ (19 : Int32) < len) (h3 : ¬ pp = (0 : Int32)) (h5 : ¬ p < d) (h6 : ¬ (18 : Int32) < (w + p)) : 0 ≤ (p - d).toInt ∧ (p - d).toInt ≤ 18 := by
  have q := (own_e12 hE h1 h2 h3 h5 h6).2; omega
theorem own_get {L : List Int32} {j : Int32} (h1 : 0 ≤ j.toInt) (h2 : j.toInt < L.length) : ¬ j < 0 ∧ (L.map Value.int)[j.toNatClampNeg]? = some (.int (Own.ga L j)) := by
  refine ⟨by rw [Int32.lt_iff_toInt_lt]; have : (0 : Int32).toInt = 0 := rfl; omega, ?_⟩
  have q : j.toNatClampNeg < L.length := by unfold Int32.toNatClampNeg; omega
  rw [List.getElem?_map, List.getElem?_eq_getElem q]
  simp [Own.ga, q]
theorem own_ld {L : List Int32} {p2 x8 : Int32} (hL : L.length = 22) (he : p2.toInt ≤ 22) (hx : 0 ≤ x8.toInt) (c : x8 < p2) : ¬ x8 < 0 ∧ (L.map Value.int)[x8.toNatClampNeg]? = some (.int (Own.ga L x8)) := by
  rw [Int32.lt_iff_toInt_lt] at c
  exact own_get hx (by omega)
def own_l2 : Nat → Int64 → Int64
  | 0, v => v
  | n + 1, v => own_l2 n (v * (10 : Int64))
def own_fin (p1 p2 p3 pt : Int32) (v : Int64) : Int64 :=
  if pt < (0 : Int32) then (if p3 < (0 : Int32) then -1 else if (18 : Int32) < (p2 - p1) + p3 then -1 else own_l2 p3.toInt.toNat v)
  else (if (p2 - pt) - (1 : Int32) = (0 : Int32) then -1 else if p3 < (p2 - pt) - (1 : Int32) then -1 else if (18 : Int32) < (pt - p1) + p3 then -1 else own_l2 (p3.toInt - ((p2 - pt) - (1 : Int32)).toInt).toNat v)
def own_l1 (L : List Int32) (p1 p2 p3 : Int32) : Nat → Int32 → Int32 → Int64 → Int64
  | 0, _, pt, v => own_fin p1 p2 p3 pt v
  | n + 1, i, pt, v => if Own.ga L i = (46 : Int32) ∧ pt < (0 : Int32) ∧ p1 < i then own_l1 L p1 p2 p3 n (i + (1 : Int32)) i v
    else if ¬ Own.ga L i < (48 : Int32) ∧ ¬ (57 : Int32) < Own.ga L i then own_l1 L p1 p2 p3 n (i + (1 : Int32)) pt ((v * (10 : Int64)) + (Own.ga L i - (48 : Int32)).toInt64) else -1
def own_res (L : List Int32) (p1 p2 p3 : Int32) : Int64 :=
  if p2 - p1 = (0 : Int32) then -1 else if (19 : Int32) < p2 - p1 then -1 else own_l1 L p1 p2 p3 (p2 - p1).toInt.toNat p1 (-1) 0
theorem own_adds1 {x : Int32} (h1 : -1000 ≤ x.toInt) (h2 : x.toInt ≤ 1000) : (x + (1 : Int32)).toInt = x.toInt + 1 := by
  have := c_iadd x 1; have := own_z1; have := (x + 1).toInt_lt; have := (x + 1).le_toInt; omega

theorem d2_0 : decode method_5_code 0 = .ok (.bipush 19, 2) := by decide +kernel
theorem d2_2 : decode method_5_code 2 = .ok (.newarray .long, 2) := by decide +kernel
theorem d2_4 : decode method_5_code 4 = .ok (.dup, 1) := by decide +kernel
theorem d2_5 : decode method_5_code 5 = .ok (.iconst 0, 1) := by decide +kernel
theorem d2_6 : decode method_5_code 6 = .ok (.lconst 1, 1) := by decide +kernel
theorem d2_7 : decode method_5_code 7 = .ok (.lastore, 1) := by decide +kernel
theorem d2_8 : decode method_5_code 8 = .ok (.dup, 1) := by decide +kernel
theorem d2_9 : decode method_5_code 9 = .ok (.iconst 1, 1) := by decide +kernel
theorem d2_10 : decode method_5_code 10 = .ok (.ldc2_w 35, 3) := by decide +kernel
theorem d2_13 : decode method_5_code 13 = .ok (.lastore, 1) := by decide +kernel
theorem d2_14 : decode method_5_code 14 = .ok (.dup, 1) := by decide +kernel
theorem d2_15 : decode method_5_code 15 = .ok (.iconst 2, 1) := by decide +kernel
theorem d2_16 : decode method_5_code 16 = .ok (.ldc2_w 37, 3) := by decide +kernel
theorem d2_19 : decode method_5_code 19 = .ok (.lastore, 1) := by decide +kernel
theorem d2_20 : decode method_5_code 20 = .ok (.dup, 1) := by decide +kernel
theorem d2_21 : decode method_5_code 21 = .ok (.iconst 3, 1) := by decide +kernel
theorem d2_22 : decode method_5_code 22 = .ok (.ldc2_w 39, 3) := by decide +kernel
theorem d2_25 : decode method_5_code 25 = .ok (.lastore, 1) := by decide +kernel
theorem d2_26 : decode method_5_code 26 = .ok (.dup, 1) := by decide +kernel
theorem d2_27 : decode method_5_code 27 = .ok (.iconst 4, 1) := by decide +kernel
theorem d2_28 : decode method_5_code 28 = .ok (.ldc2_w 41, 3) := by decide +kernel
theorem d2_31 : decode method_5_code 31 = .ok (.lastore, 1) := by decide +kernel
theorem d2_32 : decode method_5_code 32 = .ok (.dup, 1) := by decide +kernel
theorem d2_33 : decode method_5_code 33 = .ok (.iconst 5, 1) := by decide +kernel
theorem d2_34 : decode method_5_code 34 = .ok (.ldc2_w 43, 3) := by decide +kernel
theorem d2_37 : decode method_5_code 37 = .ok (.lastore, 1) := by decide +kernel
theorem d2_38 : decode method_5_code 38 = .ok (.dup, 1) := by decide +kernel
theorem d2_39 : decode method_5_code 39 = .ok (.bipush 6, 2) := by decide +kernel
theorem d2_41 : decode method_5_code 41 = .ok (.ldc2_w 45, 3) := by decide +kernel
theorem d2_44 : decode method_5_code 44 = .ok (.lastore, 1) := by decide +kernel
theorem d2_45 : decode method_5_code 45 = .ok (.dup, 1) := by decide +kernel
theorem d2_46 : decode method_5_code 46 = .ok (.bipush 7, 2) := by decide +kernel
theorem d2_48 : decode method_5_code 48 = .ok (.ldc2_w 47, 3) := by decide +kernel
theorem d2_51 : decode method_5_code 51 = .ok (.lastore, 1) := by decide +kernel
theorem d2_52 : decode method_5_code 52 = .ok (.dup, 1) := by decide +kernel
theorem d2_53 : decode method_5_code 53 = .ok (.bipush 8, 2) := by decide +kernel
theorem d2_55 : decode method_5_code 55 = .ok (.ldc2_w 49, 3) := by decide +kernel
theorem d2_58 : decode method_5_code 58 = .ok (.lastore, 1) := by decide +kernel
theorem d2_59 : decode method_5_code 59 = .ok (.dup, 1) := by decide +kernel
theorem d2_60 : decode method_5_code 60 = .ok (.bipush 9, 2) := by decide +kernel
theorem d2_62 : decode method_5_code 62 = .ok (.ldc2_w 51, 3) := by decide +kernel
theorem d2_65 : decode method_5_code 65 = .ok (.lastore, 1) := by decide +kernel
theorem d2_66 : decode method_5_code 66 = .ok (.dup, 1) := by decide +kernel
theorem d2_67 : decode method_5_code 67 = .ok (.bipush 10, 2) := by decide +kernel
theorem d2_69 : decode method_5_code 69 = .ok (.ldc2_w 53, 3) := by decide +kernel
theorem d2_72 : decode method_5_code 72 = .ok (.lastore, 1) := by decide +kernel
theorem d2_73 : decode method_5_code 73 = .ok (.dup, 1) := by decide +kernel
theorem d2_74 : decode method_5_code 74 = .ok (.bipush 11, 2) := by decide +kernel
theorem d2_76 : decode method_5_code 76 = .ok (.ldc2_w 55, 3) := by decide +kernel
theorem d2_79 : decode method_5_code 79 = .ok (.lastore, 1) := by decide +kernel
theorem d2_80 : decode method_5_code 80 = .ok (.dup, 1) := by decide +kernel
theorem d2_81 : decode method_5_code 81 = .ok (.bipush 12, 2) := by decide +kernel
theorem d2_83 : decode method_5_code 83 = .ok (.ldc2_w 57, 3) := by decide +kernel
theorem d2_86 : decode method_5_code 86 = .ok (.lastore, 1) := by decide +kernel
theorem d2_87 : decode method_5_code 87 = .ok (.dup, 1) := by decide +kernel
theorem d2_88 : decode method_5_code 88 = .ok (.bipush 13, 2) := by decide +kernel
theorem d2_90 : decode method_5_code 90 = .ok (.ldc2_w 59, 3) := by decide +kernel
theorem d2_93 : decode method_5_code 93 = .ok (.lastore, 1) := by decide +kernel
theorem d2_94 : decode method_5_code 94 = .ok (.dup, 1) := by decide +kernel
theorem d2_95 : decode method_5_code 95 = .ok (.bipush 14, 2) := by decide +kernel
theorem d2_97 : decode method_5_code 97 = .ok (.ldc2_w 61, 3) := by decide +kernel
theorem d2_100 : decode method_5_code 100 = .ok (.lastore, 1) := by decide +kernel
theorem d2_101 : decode method_5_code 101 = .ok (.dup, 1) := by decide +kernel
theorem d2_102 : decode method_5_code 102 = .ok (.bipush 15, 2) := by decide +kernel
theorem d2_104 : decode method_5_code 104 = .ok (.ldc2_w 63, 3) := by decide +kernel
theorem d2_107 : decode method_5_code 107 = .ok (.lastore, 1) := by decide +kernel
theorem d2_108 : decode method_5_code 108 = .ok (.dup, 1) := by decide +kernel
theorem d2_109 : decode method_5_code 109 = .ok (.bipush 16, 2) := by decide +kernel
theorem d2_111 : decode method_5_code 111 = .ok (.ldc2_w 65, 3) := by decide +kernel
theorem d2_114 : decode method_5_code 114 = .ok (.lastore, 1) := by decide +kernel
theorem d2_115 : decode method_5_code 115 = .ok (.dup, 1) := by decide +kernel
theorem d2_116 : decode method_5_code 116 = .ok (.bipush 17, 2) := by decide +kernel
theorem d2_118 : decode method_5_code 118 = .ok (.ldc2_w 67, 3) := by decide +kernel
theorem d2_121 : decode method_5_code 121 = .ok (.lastore, 1) := by decide +kernel
theorem d2_122 : decode method_5_code 122 = .ok (.dup, 1) := by decide +kernel
theorem d2_123 : decode method_5_code 123 = .ok (.bipush 18, 2) := by decide +kernel
theorem d2_125 : decode method_5_code 125 = .ok (.ldc2_w 69, 3) := by decide +kernel
theorem d2_128 : decode method_5_code 128 = .ok (.lastore, 1) := by decide +kernel
theorem d2_129 : decode method_5_code 129 = .ok (.astore_n 1, 1) := by decide +kernel
theorem d2_130 : decode method_5_code 130 = .ok (.aload_n 1, 1) := by decide +kernel
theorem d2_131 : decode method_5_code 131 = .ok (.iload_n 0, 1) := by decide +kernel
theorem d2_132 : decode method_5_code 132 = .ok (.laload, 1) := by decide +kernel
theorem d2_133 : decode method_5_code 133 = .ok (.lreturn, 1) := by decide +kernel
theorem pn_2 : plainFor (⟨"com/example/debit/debit/csv/DecimalTextScaledPinLaw", "pow10", "(I)J"⟩ : MethodName) = true := plainFor_of_name (by first | (simp [plainName, overriddenIn, x]; done) | decide +kernel)
theorem ef_2 (p0 : Int32) (m : MethodId) : entryFrame m #[(.int p0)] 2 = mkF m 0 #[.val (.int p0), .unset] [] := by first | (simp [entryFrame, mkF, argsToLocals, Value.category, maxLocals]; done) | rfl
abbrev R2 : Room := ({ frames := 0, cells := 1, slots := 19, locals := 0 } : Room)
abbrev A2 (l : Launch) (Z : State) (n0 : Nat) (D : Own.Dyn) := Own.Rch l Z n0 R2 (⟨"com/example/debit/debit/csv/DecimalTextScaledPinLaw", "pow10", "(I)J"⟩ : MethodName) method_5_code 2 (some .long) D
def S2 (p0 : Int32) (w : Int64) : Prop := w = (own_p10 p0)
set_option maxRecDepth 65536 in
set_option maxHeartbeats 40000000 in
theorem c2 (l : Launch) (Z : State) (a0 : Array Value) (hw : ∀ d ∈ tables_1, d.before a0 Z = true) (n0 : Nat) (h : Heap) (Zs : n0 ≤ h.size) (p0 : Int32) (hk0 : 0 ≤ p0.toInt) (hk1 : p0.toInt ≤ 18) :
    Own.Con l Z n0 (⟨"com/example/debit/debit/csv/DecimalTextScaledPinLaw", "pow10", "(I)J"⟩ : MethodName) method_5_code 2 (some .long) R2 #[(.int p0)] h (fun v h' => Keep h h' [] ∧ ∃ w : Int64, v = some (.long w) ∧ S2 p0 w) := by
  refine Own.Con.enter pn_2 (ef_2 p0) fun D r => ?_
  have K : Keep h h [] := Keep.refl _ _
  replace r : A2 l Z n0 D h 0 0 2 #[.val (.int p0), .unset] [(.int (19 : Int32))] := Own.bipush r d2_0 rfl
  obtain ⟨h1, ⟨E1, V_b1⟩, r⟩ := Own.newArr r d2_2 (hw _ (List.mem_of_getElem? (i := 10) rfl)) (by decide) (cap := 19) (by decide) (by decide) (by decide) (by decide)
  obtain ⟨b1, g1⟩ : ∃ z, z = h.size := ⟨_, rfl⟩
  rw [← g1] at V_b1 r
  have ge_b1 : n0 ≤ b1 := Nat.le_trans Zs (Nat.le_of_eq g1.symm)
  have sz_b1 : h.size ≤ b1 := Nat.le_trans K.1 (Nat.le_of_eq g1.symm)
  replace Zs := Nat.le_trans Zs E1.1
  replace K := K.ext E1
  replace r : A2 l Z n0 D h1 1 19 4 #[.val (.int p0), .unset] [(.ref b1)] := r
  replace V_b1 : Own.VA Z h1 b1 .long [(.long (0 : Int64)), (.long (0 : Int64)), (.long (0 : Int64)), (.long (0 : Int64)), (.long (0 : Int64)), (.long (0 : Int64)), (.long (0 : Int64)), (.long (0 : Int64)), (.long (0 : Int64)), (.long (0 : Int64)), (.long (0 : Int64)), (.long (0 : Int64)), (.long (0 : Int64)), (.long (0 : Int64)), (.long (0 : Int64)), (.long (0 : Int64)), (.long (0 : Int64)), (.long (0 : Int64)), (.long (0 : Int64))] := V_b1
  replace r : A2 l Z n0 D h1 1 19 5 #[.val (.int p0), .unset] [(.ref b1), (.ref b1)] := Own.dup r d2_4 rfl
  replace r : A2 l Z n0 D h1 1 19 6 #[.val (.int p0), .unset] [(.int (0 : Int32)), (.ref b1), (.ref b1)] := Own.iconst r d2_5 rfl
  replace r : A2 l Z n0 D h1 1 19 7 #[.val (.int p0), .unset] [(.long (1 : Int64)), (.int (0 : Int32)), (.ref b1), (.ref b1)] := Own.lconst r d2_6 rfl
  obtain ⟨h3, ⟨W2, V_b1⟩, r⟩ := Own.lastore r d2_7 V_b1 (by decide) (Nat.le_of_ble_eq_true rfl) ge_b1
  replace r : A2 l Z n0 D h3 1 19 8 #[.val (.int p0), .unset] [(.ref b1)] := r
  replace Zs := Nat.le_trans Zs (Nat.le_of_eq W2.size.symm)
  replace K := K.wr W2 (Or.inr sz_b1)
  replace V_b1 : Own.VA Z h3 b1 .long [(.long (1 : Int64)), (.long (0 : Int64)), (.long (0 : Int64)), (.long (0 : Int64)), (.long (0 : Int64)), (.long (0 : Int64)), (.long (0 : Int64)), (.long (0 : Int64)), (.long (0 : Int64)), (.long (0 : Int64)), (.long (0 : Int64)), (.long (0 : Int64)), (.long (0 : Int64)), (.long (0 : Int64)), (.long (0 : Int64)), (.long (0 : Int64)), (.long (0 : Int64)), (.long (0 : Int64)), (.long (0 : Int64))] := V_b1
  replace r : A2 l Z n0 D h3 1 19 9 #[.val (.int p0), .unset] [(.ref b1), (.ref b1)] := Own.dup r d2_8 rfl
  replace r : A2 l Z n0 D h3 1 19 10 #[.val (.int p0), .unset] [(.int (1 : Int32)), (.ref b1), (.ref b1)] := Own.iconst r d2_9 rfl
  replace r : A2 l Z n0 D h3 1 19 13 #[.val (.int p0), .unset] [(.long (10 : Int64)), (.int (1 : Int32)), (.ref b1), (.ref b1)] := Own.ldcJ r d2_10 (hw _ (List.mem_of_getElem? (i := 11) rfl))
  obtain ⟨h5, ⟨W4, V_b1⟩, r⟩ := Own.lastore r d2_13 V_b1 (by decide) (Nat.le_of_ble_eq_true rfl) ge_b1
  replace r : A2 l Z n0 D h5 1 19 14 #[.val (.int p0), .unset] [(.ref b1)] := r
  replace Zs := Nat.le_trans Zs (Nat.le_of_eq W4.size.symm)
  replace K := K.wr W4 (Or.inr sz_b1)
  replace V_b1 : Own.VA Z h5 b1 .long [(.long (1 : Int64)), (.long (10 : Int64)), (.long (0 : Int64)), (.long (0 : Int64)), (.long (0 : Int64)), (.long (0 : Int64)), (.long (0 : Int64)), (.long (0 : Int64)), (.long (0 : Int64)), (.long (0 : Int64)), (.long (0 : Int64)), (.long (0 : Int64)), (.long (0 : Int64)), (.long (0 : Int64)), (.long (0 : Int64)), (.long (0 : Int64)), (.long (0 : Int64)), (.long (0 : Int64)), (.long (0 : Int64))] := V_b1
  replace r : A2 l Z n0 D h5 1 19 15 #[.val (.int p0), .unset] [(.ref b1), (.ref b1)] := Own.dup r d2_14 rfl
  replace r : A2 l Z n0 D h5 1 19 16 #[.val (.int p0), .unset] [(.int (2 : Int32)), (.ref b1), (.ref b1)] := Own.iconst r d2_15 rfl
  replace r : A2 l Z n0 D h5 1 19 19 #[.val (.int p0), .unset] [(.long (100 : Int64)), (.int (2 : Int32)), (.ref b1), (.ref b1)] := Own.ldcJ r d2_16 (hw _ (List.mem_of_getElem? (i := 12) rfl))
  obtain ⟨h7, ⟨W6, V_b1⟩, r⟩ := Own.lastore r d2_19 V_b1 (by decide) (Nat.le_of_ble_eq_true rfl) ge_b1
  replace r : A2 l Z n0 D h7 1 19 20 #[.val (.int p0), .unset] [(.ref b1)] := r
  replace Zs := Nat.le_trans Zs (Nat.le_of_eq W6.size.symm)
  replace K := K.wr W6 (Or.inr sz_b1)
  replace V_b1 : Own.VA Z h7 b1 .long [(.long (1 : Int64)), (.long (10 : Int64)), (.long (100 : Int64)), (.long (0 : Int64)), (.long (0 : Int64)), (.long (0 : Int64)), (.long (0 : Int64)), (.long (0 : Int64)), (.long (0 : Int64)), (.long (0 : Int64)), (.long (0 : Int64)), (.long (0 : Int64)), (.long (0 : Int64)), (.long (0 : Int64)), (.long (0 : Int64)), (.long (0 : Int64)), (.long (0 : Int64)), (.long (0 : Int64)), (.long (0 : Int64))] := V_b1
  replace r : A2 l Z n0 D h7 1 19 21 #[.val (.int p0), .unset] [(.ref b1), (.ref b1)] := Own.dup r d2_20 rfl
  replace r : A2 l Z n0 D h7 1 19 22 #[.val (.int p0), .unset] [(.int (3 : Int32)), (.ref b1), (.ref b1)] := Own.iconst r d2_21 rfl
  replace r : A2 l Z n0 D h7 1 19 25 #[.val (.int p0), .unset] [(.long (1000 : Int64)), (.int (3 : Int32)), (.ref b1), (.ref b1)] := Own.ldcJ r d2_22 (hw _ (List.mem_of_getElem? (i := 13) rfl))
  obtain ⟨h9, ⟨W8, V_b1⟩, r⟩ := Own.lastore r d2_25 V_b1 (by decide) (Nat.le_of_ble_eq_true rfl) ge_b1
  replace r : A2 l Z n0 D h9 1 19 26 #[.val (.int p0), .unset] [(.ref b1)] := r
  replace Zs := Nat.le_trans Zs (Nat.le_of_eq W8.size.symm)
  replace K := K.wr W8 (Or.inr sz_b1)
  replace V_b1 : Own.VA Z h9 b1 .long [(.long (1 : Int64)), (.long (10 : Int64)), (.long (100 : Int64)), (.long (1000 : Int64)), (.long (0 : Int64)), (.long (0 : Int64)), (.long (0 : Int64)), (.long (0 : Int64)), (.long (0 : Int64)), (.long (0 : Int64)), (.long (0 : Int64)), (.long (0 : Int64)), (.long (0 : Int64)), (.long (0 : Int64)), (.long (0 : Int64)), (.long (0 : Int64)), (.long (0 : Int64)), (.long (0 : Int64)), (.long (0 : Int64))] := V_b1
  replace r : A2 l Z n0 D h9 1 19 27 #[.val (.int p0), .unset] [(.ref b1), (.ref b1)] := Own.dup r d2_26 rfl
  replace r : A2 l Z n0 D h9 1 19 28 #[.val (.int p0), .unset] [(.int (4 : Int32)), (.ref b1), (.ref b1)] := Own.iconst r d2_27 rfl
  replace r : A2 l Z n0 D h9 1 19 31 #[.val (.int p0), .unset] [(.long (10000 : Int64)), (.int (4 : Int32)), (.ref b1), (.ref b1)] := Own.ldcJ r d2_28 (hw _ (List.mem_of_getElem? (i := 14) rfl))
  obtain ⟨h11, ⟨W10, V_b1⟩, r⟩ := Own.lastore r d2_31 V_b1 (by decide) (Nat.le_of_ble_eq_true rfl) ge_b1
  replace r : A2 l Z n0 D h11 1 19 32 #[.val (.int p0), .unset] [(.ref b1)] := r
  replace Zs := Nat.le_trans Zs (Nat.le_of_eq W10.size.symm)
  replace K := K.wr W10 (Or.inr sz_b1)
  replace V_b1 : Own.VA Z h11 b1 .long [(.long (1 : Int64)), (.long (10 : Int64)), (.long (100 : Int64)), (.long (1000 : Int64)), (.long (10000 : Int64)), (.long (0 : Int64)), (.long (0 : Int64)), (.long (0 : Int64)), (.long (0 : Int64)), (.long (0 : Int64)), (.long (0 : Int64)), (.long (0 : Int64)), (.long (0 : Int64)), (.long (0 : Int64)), (.long (0 : Int64)), (.long (0 : Int64)), (.long (0 : Int64)), (.long (0 : Int64)), (.long (0 : Int64))] := V_b1
  replace r : A2 l Z n0 D h11 1 19 33 #[.val (.int p0), .unset] [(.ref b1), (.ref b1)] := Own.dup r d2_32 rfl
  replace r : A2 l Z n0 D h11 1 19 34 #[.val (.int p0), .unset] [(.int (5 : Int32)), (.ref b1), (.ref b1)] := Own.iconst r d2_33 rfl
  replace r : A2 l Z n0 D h11 1 19 37 #[.val (.int p0), .unset] [(.long (100000 : Int64)), (.int (5 : Int32)), (.ref b1), (.ref b1)] := Own.ldcJ r d2_34 (hw _ (List.mem_of_getElem? (i := 15) rfl))
  obtain ⟨h13, ⟨W12, V_b1⟩, r⟩ := Own.lastore r d2_37 V_b1 (by decide) (Nat.le_of_ble_eq_true rfl) ge_b1
  replace r : A2 l Z n0 D h13 1 19 38 #[.val (.int p0), .unset] [(.ref b1)] := r
  replace Zs := Nat.le_trans Zs (Nat.le_of_eq W12.size.symm)
  replace K := K.wr W12 (Or.inr sz_b1)
  replace V_b1 : Own.VA Z h13 b1 .long [(.long (1 : Int64)), (.long (10 : Int64)), (.long (100 : Int64)), (.long (1000 : Int64)), (.long (10000 : Int64)), (.long (100000 : Int64)), (.long (0 : Int64)), (.long (0 : Int64)), (.long (0 : Int64)), (.long (0 : Int64)), (.long (0 : Int64)), (.long (0 : Int64)), (.long (0 : Int64)), (.long (0 : Int64)), (.long (0 : Int64)), (.long (0 : Int64)), (.long (0 : Int64)), (.long (0 : Int64)), (.long (0 : Int64))] := V_b1
  replace r : A2 l Z n0 D h13 1 19 39 #[.val (.int p0), .unset] [(.ref b1), (.ref b1)] := Own.dup r d2_38 rfl
  replace r : A2 l Z n0 D h13 1 19 41 #[.val (.int p0), .unset] [(.int (6 : Int32)), (.ref b1), (.ref b1)] := Own.bipush r d2_39 rfl
  replace r : A2 l Z n0 D h13 1 19 44 #[.val (.int p0), .unset] [(.long (1000000 : Int64)), (.int (6 : Int32)), (.ref b1), (.ref b1)] := Own.ldcJ r d2_41 (hw _ (List.mem_of_getElem? (i := 16) rfl))
  obtain ⟨h15, ⟨W14, V_b1⟩, r⟩ := Own.lastore r d2_44 V_b1 (by decide) (Nat.le_of_ble_eq_true rfl) ge_b1
  replace r : A2 l Z n0 D h15 1 19 45 #[.val (.int p0), .unset] [(.ref b1)] := r
  replace Zs := Nat.le_trans Zs (Nat.le_of_eq W14.size.symm)
  replace K := K.wr W14 (Or.inr sz_b1)
  replace V_b1 : Own.VA Z h15 b1 .long [(.long (1 : Int64)), (.long (10 : Int64)), (.long (100 : Int64)), (.long (1000 : Int64)), (.long (10000 : Int64)), (.long (100000 : Int64)), (.long (1000000 : Int64)), (.long (0 : Int64)), (.long (0 : Int64)), (.long (0 : Int64)), (.long (0 : Int64)), (.long (0 : Int64)), (.long (0 : Int64)), (.long (0 : Int64)), (.long (0 : Int64)), (.long (0 : Int64)), (.long (0 : Int64)), (.long (0 : Int64)), (.long (0 : Int64))] := V_b1
  replace r : A2 l Z n0 D h15 1 19 46 #[.val (.int p0), .unset] [(.ref b1), (.ref b1)] := Own.dup r d2_45 rfl
  replace r : A2 l Z n0 D h15 1 19 48 #[.val (.int p0), .unset] [(.int (7 : Int32)), (.ref b1), (.ref b1)] := Own.bipush r d2_46 rfl
  replace r : A2 l Z n0 D h15 1 19 51 #[.val (.int p0), .unset] [(.long (10000000 : Int64)), (.int (7 : Int32)), (.ref b1), (.ref b1)] := Own.ldcJ r d2_48 (hw _ (List.mem_of_getElem? (i := 17) rfl))
  obtain ⟨h17, ⟨W16, V_b1⟩, r⟩ := Own.lastore r d2_51 V_b1 (by decide) (Nat.le_of_ble_eq_true rfl) ge_b1
  replace r : A2 l Z n0 D h17 1 19 52 #[.val (.int p0), .unset] [(.ref b1)] := r
  replace Zs := Nat.le_trans Zs (Nat.le_of_eq W16.size.symm)
  replace K := K.wr W16 (Or.inr sz_b1)
  replace V_b1 : Own.VA Z h17 b1 .long [(.long (1 : Int64)), (.long (10 : Int64)), (.long (100 : Int64)), (.long (1000 : Int64)), (.long (10000 : Int64)), (.long (100000 : Int64)), (.long (1000000 : Int64)), (.long (10000000 : Int64)), (.long (0 : Int64)), (.long (0 : Int64)), (.long (0 : Int64)), (.long (0 : Int64)), (.long (0 : Int64)), (.long (0 : Int64)), (.long (0 : Int64)), (.long (0 : Int64)), (.long (0 : Int64)), (.long (0 : Int64)), (.long (0 : Int64))] := V_b1
  replace r : A2 l Z n0 D h17 1 19 53 #[.val (.int p0), .unset] [(.ref b1), (.ref b1)] := Own.dup r d2_52 rfl
  replace r : A2 l Z n0 D h17 1 19 55 #[.val (.int p0), .unset] [(.int (8 : Int32)), (.ref b1), (.ref b1)] := Own.bipush r d2_53 rfl
  replace r : A2 l Z n0 D h17 1 19 58 #[.val (.int p0), .unset] [(.long (100000000 : Int64)), (.int (8 : Int32)), (.ref b1), (.ref b1)] := Own.ldcJ r d2_55 (hw _ (List.mem_of_getElem? (i := 18) rfl))
  obtain ⟨h19, ⟨W18, V_b1⟩, r⟩ := Own.lastore r d2_58 V_b1 (by decide) (Nat.le_of_ble_eq_true rfl) ge_b1
  replace r : A2 l Z n0 D h19 1 19 59 #[.val (.int p0), .unset] [(.ref b1)] := r
  replace Zs := Nat.le_trans Zs (Nat.le_of_eq W18.size.symm)
  replace K := K.wr W18 (Or.inr sz_b1)
  replace V_b1 : Own.VA Z h19 b1 .long [(.long (1 : Int64)), (.long (10 : Int64)), (.long (100 : Int64)), (.long (1000 : Int64)), (.long (10000 : Int64)), (.long (100000 : Int64)), (.long (1000000 : Int64)), (.long (10000000 : Int64)), (.long (100000000 : Int64)), (.long (0 : Int64)), (.long (0 : Int64)), (.long (0 : Int64)), (.long (0 : Int64)), (.long (0 : Int64)), (.long (0 : Int64)), (.long (0 : Int64)), (.long (0 : Int64)), (.long (0 : Int64)), (.long (0 : Int64))] := V_b1
  replace r : A2 l Z n0 D h19 1 19 60 #[.val (.int p0), .unset] [(.ref b1), (.ref b1)] := Own.dup r d2_59 rfl
  replace r : A2 l Z n0 D h19 1 19 62 #[.val (.int p0), .unset] [(.int (9 : Int32)), (.ref b1), (.ref b1)] := Own.bipush r d2_60 rfl
  replace r : A2 l Z n0 D h19 1 19 65 #[.val (.int p0), .unset] [(.long (1000000000 : Int64)), (.int (9 : Int32)), (.ref b1), (.ref b1)] := Own.ldcJ r d2_62 (hw _ (List.mem_of_getElem? (i := 19) rfl))
  obtain ⟨h21, ⟨W20, V_b1⟩, r⟩ := Own.lastore r d2_65 V_b1 (by decide) (Nat.le_of_ble_eq_true rfl) ge_b1
  replace r : A2 l Z n0 D h21 1 19 66 #[.val (.int p0), .unset] [(.ref b1)] := r
  replace Zs := Nat.le_trans Zs (Nat.le_of_eq W20.size.symm)
  replace K := K.wr W20 (Or.inr sz_b1)
  replace V_b1 : Own.VA Z h21 b1 .long [(.long (1 : Int64)), (.long (10 : Int64)), (.long (100 : Int64)), (.long (1000 : Int64)), (.long (10000 : Int64)), (.long (100000 : Int64)), (.long (1000000 : Int64)), (.long (10000000 : Int64)), (.long (100000000 : Int64)), (.long (1000000000 : Int64)), (.long (0 : Int64)), (.long (0 : Int64)), (.long (0 : Int64)), (.long (0 : Int64)), (.long (0 : Int64)), (.long (0 : Int64)), (.long (0 : Int64)), (.long (0 : Int64)), (.long (0 : Int64))] := V_b1
  replace r : A2 l Z n0 D h21 1 19 67 #[.val (.int p0), .unset] [(.ref b1), (.ref b1)] := Own.dup r d2_66 rfl
  replace r : A2 l Z n0 D h21 1 19 69 #[.val (.int p0), .unset] [(.int (10 : Int32)), (.ref b1), (.ref b1)] := Own.bipush r d2_67 rfl
  replace r : A2 l Z n0 D h21 1 19 72 #[.val (.int p0), .unset] [(.long (10000000000 : Int64)), (.int (10 : Int32)), (.ref b1), (.ref b1)] := Own.ldcJ r d2_69 (hw _ (List.mem_of_getElem? (i := 20) rfl))
  obtain ⟨h23, ⟨W22, V_b1⟩, r⟩ := Own.lastore r d2_72 V_b1 (by decide) (Nat.le_of_ble_eq_true rfl) ge_b1
  replace r : A2 l Z n0 D h23 1 19 73 #[.val (.int p0), .unset] [(.ref b1)] := r
  replace Zs := Nat.le_trans Zs (Nat.le_of_eq W22.size.symm)
  replace K := K.wr W22 (Or.inr sz_b1)
  replace V_b1 : Own.VA Z h23 b1 .long [(.long (1 : Int64)), (.long (10 : Int64)), (.long (100 : Int64)), (.long (1000 : Int64)), (.long (10000 : Int64)), (.long (100000 : Int64)), (.long (1000000 : Int64)), (.long (10000000 : Int64)), (.long (100000000 : Int64)), (.long (1000000000 : Int64)), (.long (10000000000 : Int64)), (.long (0 : Int64)), (.long (0 : Int64)), (.long (0 : Int64)), (.long (0 : Int64)), (.long (0 : Int64)), (.long (0 : Int64)), (.long (0 : Int64)), (.long (0 : Int64))] := V_b1
  replace r : A2 l Z n0 D h23 1 19 74 #[.val (.int p0), .unset] [(.ref b1), (.ref b1)] := Own.dup r d2_73 rfl
  replace r : A2 l Z n0 D h23 1 19 76 #[.val (.int p0), .unset] [(.int (11 : Int32)), (.ref b1), (.ref b1)] := Own.bipush r d2_74 rfl
  replace r : A2 l Z n0 D h23 1 19 79 #[.val (.int p0), .unset] [(.long (100000000000 : Int64)), (.int (11 : Int32)), (.ref b1), (.ref b1)] := Own.ldcJ r d2_76 (hw _ (List.mem_of_getElem? (i := 21) rfl))
  obtain ⟨h25, ⟨W24, V_b1⟩, r⟩ := Own.lastore r d2_79 V_b1 (by decide) (Nat.le_of_ble_eq_true rfl) ge_b1
  replace r : A2 l Z n0 D h25 1 19 80 #[.val (.int p0), .unset] [(.ref b1)] := r
  replace Zs := Nat.le_trans Zs (Nat.le_of_eq W24.size.symm)
  replace K := K.wr W24 (Or.inr sz_b1)
  replace V_b1 : Own.VA Z h25 b1 .long [(.long (1 : Int64)), (.long (10 : Int64)), (.long (100 : Int64)), (.long (1000 : Int64)), (.long (10000 : Int64)), (.long (100000 : Int64)), (.long (1000000 : Int64)), (.long (10000000 : Int64)), (.long (100000000 : Int64)), (.long (1000000000 : Int64)), (.long (10000000000 : Int64)), (.long (100000000000 : Int64)), (.long (0 : Int64)), (.long (0 : Int64)), (.long (0 : Int64)), (.long (0 : Int64)), (.long (0 : Int64)), (.long (0 : Int64)), (.long (0 : Int64))] := V_b1
  replace r : A2 l Z n0 D h25 1 19 81 #[.val (.int p0), .unset] [(.ref b1), (.ref b1)] := Own.dup r d2_80 rfl
  replace r : A2 l Z n0 D h25 1 19 83 #[.val (.int p0), .unset] [(.int (12 : Int32)), (.ref b1), (.ref b1)] := Own.bipush r d2_81 rfl
  replace r : A2 l Z n0 D h25 1 19 86 #[.val (.int p0), .unset] [(.long (1000000000000 : Int64)), (.int (12 : Int32)), (.ref b1), (.ref b1)] := Own.ldcJ r d2_83 (hw _ (List.mem_of_getElem? (i := 22) rfl))
  obtain ⟨h27, ⟨W26, V_b1⟩, r⟩ := Own.lastore r d2_86 V_b1 (by decide) (Nat.le_of_ble_eq_true rfl) ge_b1
  replace r : A2 l Z n0 D h27 1 19 87 #[.val (.int p0), .unset] [(.ref b1)] := r
  replace Zs := Nat.le_trans Zs (Nat.le_of_eq W26.size.symm)
  replace K := K.wr W26 (Or.inr sz_b1)
  replace V_b1 : Own.VA Z h27 b1 .long [(.long (1 : Int64)), (.long (10 : Int64)), (.long (100 : Int64)), (.long (1000 : Int64)), (.long (10000 : Int64)), (.long (100000 : Int64)), (.long (1000000 : Int64)), (.long (10000000 : Int64)), (.long (100000000 : Int64)), (.long (1000000000 : Int64)), (.long (10000000000 : Int64)), (.long (100000000000 : Int64)), (.long (1000000000000 : Int64)), (.long (0 : Int64)), (.long (0 : Int64)), (.long (0 : Int64)), (.long (0 : Int64)), (.long (0 : Int64)), (.long (0 : Int64))] := V_b1
  replace r : A2 l Z n0 D h27 1 19 88 #[.val (.int p0), .unset] [(.ref b1), (.ref b1)] := Own.dup r d2_87 rfl
  replace r : A2 l Z n0 D h27 1 19 90 #[.val (.int p0), .unset] [(.int (13 : Int32)), (.ref b1), (.ref b1)] := Own.bipush r d2_88 rfl
  replace r : A2 l Z n0 D h27 1 19 93 #[.val (.int p0), .unset] [(.long (10000000000000 : Int64)), (.int (13 : Int32)), (.ref b1), (.ref b1)] := Own.ldcJ r d2_90 (hw _ (List.mem_of_getElem? (i := 23) rfl))
  obtain ⟨h29, ⟨W28, V_b1⟩, r⟩ := Own.lastore r d2_93 V_b1 (by decide) (Nat.le_of_ble_eq_true rfl) ge_b1
  replace r : A2 l Z n0 D h29 1 19 94 #[.val (.int p0), .unset] [(.ref b1)] := r
  replace Zs := Nat.le_trans Zs (Nat.le_of_eq W28.size.symm)
  replace K := K.wr W28 (Or.inr sz_b1)
  replace V_b1 : Own.VA Z h29 b1 .long [(.long (1 : Int64)), (.long (10 : Int64)), (.long (100 : Int64)), (.long (1000 : Int64)), (.long (10000 : Int64)), (.long (100000 : Int64)), (.long (1000000 : Int64)), (.long (10000000 : Int64)), (.long (100000000 : Int64)), (.long (1000000000 : Int64)), (.long (10000000000 : Int64)), (.long (100000000000 : Int64)), (.long (1000000000000 : Int64)), (.long (10000000000000 : Int64)), (.long (0 : Int64)), (.long (0 : Int64)), (.long (0 : Int64)), (.long (0 : Int64)), (.long (0 : Int64))] := V_b1
  replace r : A2 l Z n0 D h29 1 19 95 #[.val (.int p0), .unset] [(.ref b1), (.ref b1)] := Own.dup r d2_94 rfl
  replace r : A2 l Z n0 D h29 1 19 97 #[.val (.int p0), .unset] [(.int (14 : Int32)), (.ref b1), (.ref b1)] := Own.bipush r d2_95 rfl
  replace r : A2 l Z n0 D h29 1 19 100 #[.val (.int p0), .unset] [(.long (100000000000000 : Int64)), (.int (14 : Int32)), (.ref b1), (.ref b1)] := Own.ldcJ r d2_97 (hw _ (List.mem_of_getElem? (i := 24) rfl))
  obtain ⟨h31, ⟨W30, V_b1⟩, r⟩ := Own.lastore r d2_100 V_b1 (by decide) (Nat.le_of_ble_eq_true rfl) ge_b1
  replace r : A2 l Z n0 D h31 1 19 101 #[.val (.int p0), .unset] [(.ref b1)] := r
  replace Zs := Nat.le_trans Zs (Nat.le_of_eq W30.size.symm)
  replace K := K.wr W30 (Or.inr sz_b1)
  replace V_b1 : Own.VA Z h31 b1 .long [(.long (1 : Int64)), (.long (10 : Int64)), (.long (100 : Int64)), (.long (1000 : Int64)), (.long (10000 : Int64)), (.long (100000 : Int64)), (.long (1000000 : Int64)), (.long (10000000 : Int64)), (.long (100000000 : Int64)), (.long (1000000000 : Int64)), (.long (10000000000 : Int64)), (.long (100000000000 : Int64)), (.long (1000000000000 : Int64)), (.long (10000000000000 : Int64)), (.long (100000000000000 : Int64)), (.long (0 : Int64)), (.long (0 : Int64)), (.long (0 : Int64)), (.long (0 : Int64))] := V_b1
  replace r : A2 l Z n0 D h31 1 19 102 #[.val (.int p0), .unset] [(.ref b1), (.ref b1)] := Own.dup r d2_101 rfl
  replace r : A2 l Z n0 D h31 1 19 104 #[.val (.int p0), .unset] [(.int (15 : Int32)), (.ref b1), (.ref b1)] := Own.bipush r d2_102 rfl
  replace r : A2 l Z n0 D h31 1 19 107 #[.val (.int p0), .unset] [(.long (1000000000000000 : Int64)), (.int (15 : Int32)), (.ref b1), (.ref b1)] := Own.ldcJ r d2_104 (hw _ (List.mem_of_getElem? (i := 25) rfl))
  obtain ⟨h33, ⟨W32, V_b1⟩, r⟩ := Own.lastore r d2_107 V_b1 (by decide) (Nat.le_of_ble_eq_true rfl) ge_b1
  replace r : A2 l Z n0 D h33 1 19 108 #[.val (.int p0), .unset] [(.ref b1)] := r
  replace Zs := Nat.le_trans Zs (Nat.le_of_eq W32.size.symm)
  replace K := K.wr W32 (Or.inr sz_b1)
  replace V_b1 : Own.VA Z h33 b1 .long [(.long (1 : Int64)), (.long (10 : Int64)), (.long (100 : Int64)), (.long (1000 : Int64)), (.long (10000 : Int64)), (.long (100000 : Int64)), (.long (1000000 : Int64)), (.long (10000000 : Int64)), (.long (100000000 : Int64)), (.long (1000000000 : Int64)), (.long (10000000000 : Int64)), (.long (100000000000 : Int64)), (.long (1000000000000 : Int64)), (.long (10000000000000 : Int64)), (.long (100000000000000 : Int64)), (.long (1000000000000000 : Int64)), (.long (0 : Int64)), (.long (0 : Int64)), (.long (0 : Int64))] := V_b1
  replace r : A2 l Z n0 D h33 1 19 109 #[.val (.int p0), .unset] [(.ref b1), (.ref b1)] := Own.dup r d2_108 rfl
  replace r : A2 l Z n0 D h33 1 19 111 #[.val (.int p0), .unset] [(.int (16 : Int32)), (.ref b1), (.ref b1)] := Own.bipush r d2_109 rfl
  replace r : A2 l Z n0 D h33 1 19 114 #[.val (.int p0), .unset] [(.long (10000000000000000 : Int64)), (.int (16 : Int32)), (.ref b1), (.ref b1)] := Own.ldcJ r d2_111 (hw _ (List.mem_of_getElem? (i := 26) rfl))
  obtain ⟨h35, ⟨W34, V_b1⟩, r⟩ := Own.lastore r d2_114 V_b1 (by decide) (Nat.le_of_ble_eq_true rfl) ge_b1
  replace r : A2 l Z n0 D h35 1 19 115 #[.val (.int p0), .unset] [(.ref b1)] := r
  replace Zs := Nat.le_trans Zs (Nat.le_of_eq W34.size.symm)
  replace K := K.wr W34 (Or.inr sz_b1)
  replace V_b1 : Own.VA Z h35 b1 .long [(.long (1 : Int64)), (.long (10 : Int64)), (.long (100 : Int64)), (.long (1000 : Int64)), (.long (10000 : Int64)), (.long (100000 : Int64)), (.long (1000000 : Int64)), (.long (10000000 : Int64)), (.long (100000000 : Int64)), (.long (1000000000 : Int64)), (.long (10000000000 : Int64)), (.long (100000000000 : Int64)), (.long (1000000000000 : Int64)), (.long (10000000000000 : Int64)), (.long (100000000000000 : Int64)), (.long (1000000000000000 : Int64)), (.long (10000000000000000 : Int64)), (.long (0 : Int64)), (.long (0 : Int64))] := V_b1
  replace r : A2 l Z n0 D h35 1 19 116 #[.val (.int p0), .unset] [(.ref b1), (.ref b1)] := Own.dup r d2_115 rfl
  replace r : A2 l Z n0 D h35 1 19 118 #[.val (.int p0), .unset] [(.int (17 : Int32)), (.ref b1), (.ref b1)] := Own.bipush r d2_116 rfl
  replace r : A2 l Z n0 D h35 1 19 121 #[.val (.int p0), .unset] [(.long (100000000000000000 : Int64)), (.int (17 : Int32)), (.ref b1), (.ref b1)] := Own.ldcJ r d2_118 (hw _ (List.mem_of_getElem? (i := 27) rfl))
  obtain ⟨h37, ⟨W36, V_b1⟩, r⟩ := Own.lastore r d2_121 V_b1 (by decide) (Nat.le_of_ble_eq_true rfl) ge_b1
  replace r : A2 l Z n0 D h37 1 19 122 #[.val (.int p0), .unset] [(.ref b1)] := r
  replace Zs := Nat.le_trans Zs (Nat.le_of_eq W36.size.symm)
  replace K := K.wr W36 (Or.inr sz_b1)
  replace V_b1 : Own.VA Z h37 b1 .long [(.long (1 : Int64)), (.long (10 : Int64)), (.long (100 : Int64)), (.long (1000 : Int64)), (.long (10000 : Int64)), (.long (100000 : Int64)), (.long (1000000 : Int64)), (.long (10000000 : Int64)), (.long (100000000 : Int64)), (.long (1000000000 : Int64)), (.long (10000000000 : Int64)), (.long (100000000000 : Int64)), (.long (1000000000000 : Int64)), (.long (10000000000000 : Int64)), (.long (100000000000000 : Int64)), (.long (1000000000000000 : Int64)), (.long (10000000000000000 : Int64)), (.long (100000000000000000 : Int64)), (.long (0 : Int64))] := V_b1
  replace r : A2 l Z n0 D h37 1 19 123 #[.val (.int p0), .unset] [(.ref b1), (.ref b1)] := Own.dup r d2_122 rfl
  replace r : A2 l Z n0 D h37 1 19 125 #[.val (.int p0), .unset] [(.int (18 : Int32)), (.ref b1), (.ref b1)] := Own.bipush r d2_123 rfl
  replace r : A2 l Z n0 D h37 1 19 128 #[.val (.int p0), .unset] [(.long (1000000000000000000 : Int64)), (.int (18 : Int32)), (.ref b1), (.ref b1)] := Own.ldcJ r d2_125 (hw _ (List.mem_of_getElem? (i := 28) rfl))
  obtain ⟨h39, ⟨W38, V_b1⟩, r⟩ := Own.lastore r d2_128 V_b1 (by decide) (Nat.le_of_ble_eq_true rfl) ge_b1
  replace r : A2 l Z n0 D h39 1 19 129 #[.val (.int p0), .unset] [(.ref b1)] := r
  replace Zs := Nat.le_trans Zs (Nat.le_of_eq W38.size.symm)
  replace K := K.wr W38 (Or.inr sz_b1)
  replace V_b1 : Own.VA Z h39 b1 .long [(.long (1 : Int64)), (.long (10 : Int64)), (.long (100 : Int64)), (.long (1000 : Int64)), (.long (10000 : Int64)), (.long (100000 : Int64)), (.long (1000000 : Int64)), (.long (10000000 : Int64)), (.long (100000000 : Int64)), (.long (1000000000 : Int64)), (.long (10000000000 : Int64)), (.long (100000000000 : Int64)), (.long (1000000000000 : Int64)), (.long (10000000000000 : Int64)), (.long (100000000000000 : Int64)), (.long (1000000000000000 : Int64)), (.long (10000000000000000 : Int64)), (.long (100000000000000000 : Int64)), (.long (1000000000000000000 : Int64))] := V_b1
  replace r : A2 l Z n0 D h39 1 19 130 #[.val (.int p0), .val (.ref b1)] [] := Own.astoreN r d2_129 rfl rfl
  replace r : A2 l Z n0 D h39 1 19 131 #[.val (.int p0), .val (.ref b1)] [(.ref b1)] := Own.aloadN r d2_130 rfl rfl
  replace r : A2 l Z n0 D h39 1 19 132 #[.val (.int p0), .val (.ref b1)] [(.int p0), (.ref b1)] := Own.iloadN r d2_131 rfl
  replace r : A2 l Z n0 D h39 1 19 133 #[.val (.int p0), .val (.ref b1)] [(.long (own_p10 p0))] := Own.laload r d2_132 V_b1 (own_p10in hk0 hk1).1 (own_p10in hk0 hk1).2
  exact ⟨_, _, (Own.Rch.retJ r d2_133).more (by decide) (by decide), K, _, rfl, rfl⟩
theorem d1_0 : decode method_3_code 0 = .ok (.iload_n 0, 1) := by decide +kernel
theorem d1_1 : decode method_3_code 1 = .ok (.ifCond .lt 8, 3) := by decide +kernel
theorem d1_4 : decode method_3_code 4 = .ok (.iload_n 0, 1) := by decide +kernel
theorem d1_5 : decode method_3_code 5 = .ok (.iload_n 1, 1) := by decide +kernel
theorem d1_6 : decode method_3_code 6 = .ok (.if_icmp .lt 6, 3) := by decide +kernel
theorem d1_9 : decode method_3_code 9 = .ok (.bipush 53, 2) := by decide +kernel
theorem d1_11 : decode method_3_code 11 = .ok (.ireturn, 1) := by decide +kernel
theorem d1_12 : decode method_3_code 12 = .ok (.iload 6, 2) := by decide +kernel
theorem d1_14 : decode method_3_code 14 = .ok (.ifCond .eq 12, 3) := by decide +kernel
theorem d1_17 : decode method_3_code 17 = .ok (.iload_n 0, 1) := by decide +kernel
theorem d1_18 : decode method_3_code 18 = .ok (.iload 7, 2) := by decide +kernel
theorem d1_20 : decode method_3_code 20 = .ok (.if_icmp .ne 6, 3) := by decide +kernel
theorem d1_23 : decode method_3_code 23 = .ok (.iload 8, 2) := by decide +kernel
theorem d1_25 : decode method_3_code 25 = .ok (.ireturn, 1) := by decide +kernel
theorem d1_26 : decode method_3_code 26 = .ok (.iload_n 0, 1) := by decide +kernel
theorem d1_27 : decode method_3_code 27 = .ok (.iload_n 2, 1) := by decide +kernel
theorem d1_28 : decode method_3_code 28 = .ok (.if_icmp .ne 6, 3) := by decide +kernel
theorem d1_31 : decode method_3_code 31 = .ok (.bipush 46, 2) := by decide +kernel
theorem d1_33 : decode method_3_code 33 = .ok (.ireturn, 1) := by decide +kernel
theorem d1_34 : decode method_3_code 34 = .ok (.iload_n 2, 1) := by decide +kernel
theorem d1_35 : decode method_3_code 35 = .ok (.ifCond .lt 14, 3) := by decide +kernel
theorem d1_38 : decode method_3_code 38 = .ok (.iload_n 0, 1) := by decide +kernel
theorem d1_39 : decode method_3_code 39 = .ok (.iload_n 2, 1) := by decide +kernel
theorem d1_40 : decode method_3_code 40 = .ok (.if_icmp .le 9, 3) := by decide +kernel
theorem d1_43 : decode method_3_code 43 = .ok (.iload_n 0, 1) := by decide +kernel
theorem d1_44 : decode method_3_code 44 = .ok (.iconst 1, 1) := by decide +kernel
theorem d1_45 : decode method_3_code 45 = .ok (.isub, 1) := by decide +kernel
theorem d1_46 : decode method_3_code 46 = .ok (.goto 4, 3) := by decide +kernel
theorem d1_49 : decode method_3_code 49 = .ok (.iload_n 0, 1) := by decide +kernel
theorem d1_50 : decode method_3_code 50 = .ok (.istore 9, 2) := by decide +kernel
theorem d1_52 : decode method_3_code 52 = .ok (.iload_n 3, 1) := by decide +kernel
theorem d1_53 : decode method_3_code 53 = .ok (.iconst 1, 1) := by decide +kernel
theorem d1_54 : decode method_3_code 54 = .ok (.isub, 1) := by decide +kernel
theorem d1_55 : decode method_3_code 55 = .ok (.iload 9, 2) := by decide +kernel
theorem d1_57 : decode method_3_code 57 = .ok (.isub, 1) := by decide +kernel
theorem d1_58 : decode method_3_code 58 = .ok (.istore 10, 2) := by decide +kernel
theorem d1_60 : decode method_3_code 60 = .ok (.iload 10, 2) := by decide +kernel
theorem d1_62 : decode method_3_code 62 = .ok (.bipush 19, 2) := by decide +kernel
theorem d1_64 : decode method_3_code 64 = .ok (.if_icmp .lt 6, 3) := by decide +kernel
theorem d1_67 : decode method_3_code 67 = .ok (.bipush 48, 2) := by decide +kernel
theorem d1_69 : decode method_3_code 69 = .ok (.ireturn, 1) := by decide +kernel
theorem d1_70 : decode method_3_code 70 = .ok (.bipush 48, 2) := by decide +kernel
theorem d1_72 : decode method_3_code 72 = .ok (.lload 4, 2) := by decide +kernel
theorem d1_74 : decode method_3_code 74 = .ok (.iload 10, 2) := by decide +kernel
theorem d1_76 : decode method_3_code 76 = .ok (.invokestatic 31, 3) := by decide +kernel
theorem d1_79 : decode method_3_code 79 = .ok (.ldiv, 1) := by decide +kernel
theorem d1_80 : decode method_3_code 80 = .ok (.ldc2_w 35, 3) := by decide +kernel
theorem d1_83 : decode method_3_code 83 = .ok (.lrem, 1) := by decide +kernel
theorem d1_84 : decode method_3_code 84 = .ok (.l2i, 1) := by decide +kernel
theorem d1_85 : decode method_3_code 85 = .ok (.iadd, 1) := by decide +kernel
theorem d1_86 : decode method_3_code 86 = .ok (.i2b, 1) := by decide +kernel
theorem d1_87 : decode method_3_code 87 = .ok (.ireturn, 1) := by decide +kernel
theorem pd_1_0 : parseMethodDescriptor "(I)J" = some ⟨[.int], some .long⟩ := by decide +kernel
theorem pn_1 : plainFor (⟨"com/example/debit/debit/csv/DecimalTextScaledPinLaw", "at", "(IIIIJZIB)B"⟩ : MethodName) = true := plainFor_of_name (by first | (simp [plainName, overriddenIn, x]; done) | decide +kernel)
theorem ef_1 (t_ : Int32) (len : Int32) (pp : Int32) (dc : Int32) (n_ : Int64) (ij : Int32) (q_ : Int32) (jk : Int32) (m : MethodId) : entryFrame m #[(.int t_), (.int len), (.int pp), (.int dc), (.long n_), (.int ij), (.int q_), (.int jk)] 11 = mkF m 0 #[.val (.int t_), .val (.int len), .val (.int pp), .val (.int dc), .val (.long n_), .second, .val (.int ij), .val (.int q_), .val (.int jk), .unset, .unset] [] := by first | (simp [entryFrame, mkF, argsToLocals, Value.category, maxLocals]; done) | rfl
abbrev R1 : Room := ({ frames := 1, cells := 1, slots := 19, locals := 16 } : Room)
abbrev A1 (l : Launch) (Z : State) (n0 : Nat) (D : Own.Dyn) := Own.Rch l Z n0 R1 (⟨"com/example/debit/debit/csv/DecimalTextScaledPinLaw", "at", "(IIIIJZIB)B"⟩ : MethodName) method_3_code 11 (some .byte) D
def S1 (t_ : Int32) (len : Int32) (pp : Int32) (dc : Int32) (n_ : Int64) (ij : Int32) (q_ : Int32) (jk : Int32) (w : Int32) : Prop := ((t_ < (0 : Int32) → w = (53 : Int32)) ∧ (¬ (t_ < (0 : Int32)) → ((t_ < len → ((ij = (0 : Int32) → ((t_ = pp → w = (46 : Int32)) ∧ (¬ (t_ = pp) → ∃ m5 : Int32, m5 = (if pp < (0 : Int32) then t_ else (if pp < t_ then (t_ - (1 : Int32)) else t_)) ∧ ∃ v10_8 : Int32, v10_8 = ((dc - (1 : Int32)) - m5) ∧ ((v10_8 < (19 : Int32) → w = (Own.i2bW ((48 : Int32) + (Own.lremW (n_ / (own_p10 v10_8)) (10 : Int64)).toInt32))) ∧ (¬ (v10_8 < (19 : Int32)) → w = (48 : Int32)))))) ∧ (¬ (ij = (0 : Int32)) → ((t_ = q_ → w = jk) ∧ (¬ (t_ = q_) → ((t_ = pp → w = (46 : Int32)) ∧ (¬ (t_ = pp) → ∃ m17 : Int32, m17 = (if pp < (0 : Int32) then t_ else (if pp < t_ then (t_ - (1 : Int32)) else t_)) ∧ ∃ v10_20 : Int32, v10_20 = ((dc - (1 : Int32)) - m17) ∧ ((v10_20 < (19 : Int32) → w = (Own.i2bW ((48 : Int32) + (Own.lremW (n_ / (own_p10 v10_20)) (10 : Int64)).toInt32))) ∧ (¬ (v10_20 < (19 : Int32)) → w = (48 : Int32)))))))))) ∧ (¬ (t_ < len) → w = (53 : Int32)))))
set_option maxRecDepth 65536 in
set_option maxHeartbeats 40000000 in
theorem c1 (l : Launch) (Z : State) (a0 : Array Value) (hw : ∀ d ∈ tables_1, d.before a0 Z = true) (n0 : Nat) (h : Heap) (Zs : n0 ≤ h.size) (t_ : Int32) (len : Int32) (pp : Int32) (dc : Int32) (n_ : Int64) (ij : Int32) (q_ : Int32) (jk : Int32) (hA : own_at len pp dc) (hj : jk.toInt8.toInt32 = jk) :
    Own.Con l Z n0 (⟨"com/example/debit/debit/csv/DecimalTextScaledPinLaw", "at", "(IIIIJZIB)B"⟩ : MethodName) method_3_code 11 (some .byte) R1 #[(.int t_), (.int len), (.int pp), (.int dc), (.long n_), (.int ij), (.int q_), (.int jk)] h (fun v h' => Keep h h' [] ∧ ∃ w : Int32, v = some (.int w) ∧ S1 t_ len pp dc n_ ij q_ jk w) := by
  refine Own.Con.enter pn_1 (ef_1 t_ len pp dc n_ ij q_ jk) fun D r => ?_
  have K : Keep h h [] := Keep.refl _ _
  replace r : A1 l Z n0 D h 0 0 1 #[.val (.int t_), .val (.int len), .val (.int pp), .val (.int dc), .val (.long n_), .second, .val (.int ij), .val (.int q_), .val (.int jk), .unset, .unset] [(.int t_)] := Own.iloadN r d1_0 rfl
  by_cases br1 : t_ < (0 : Int32)
  · skip
    replace r : A1 l Z n0 D h 0 0 9 #[.val (.int t_), .val (.int len), .val (.int pp), .val (.int dc), .val (.long n_), .second, .val (.int ij), .val (.int q_), .val (.int jk), .unset, .unset] [] := Own.ifYes r d1_1 ((if0 _ _).trans (tlt br1).1) (by decide) (by decide)
    replace r : A1 l Z n0 D h 0 0 11 #[.val (.int t_), .val (.int len), .val (.int pp), .val (.int dc), .val (.long n_), .second, .val (.int ij), .val (.int q_), .val (.int jk), .unset, .unset] [(.int (53 : Int32))] := Own.bipush r d1_9 rfl
    exact ⟨_, _, (Own.Rch.retB r d1_11 (by decide)).more (by decide) (by decide), K, _, rfl, ⟨fun _ => rfl, fun q => absurd br1 q⟩⟩
  · skip
    replace r : A1 l Z n0 D h 0 0 4 #[.val (.int t_), .val (.int len), .val (.int pp), .val (.int dc), .val (.long n_), .second, .val (.int ij), .val (.int q_), .val (.int jk), .unset, .unset] [] := Own.ifNo r d1_1 ((if0 _ _).trans (flt br1).1)
    replace r : A1 l Z n0 D h 0 0 5 #[.val (.int t_), .val (.int len), .val (.int pp), .val (.int dc), .val (.long n_), .second, .val (.int ij), .val (.int q_), .val (.int jk), .unset, .unset] [(.int t_)] := Own.iloadN r d1_4 rfl
    replace r : A1 l Z n0 D h 0 0 6 #[.val (.int t_), .val (.int len), .val (.int pp), .val (.int dc), .val (.long n_), .second, .val (.int ij), .val (.int q_), .val (.int jk), .unset, .unset] [(.int len), (.int t_)] := Own.iloadN r d1_5 rfl
    by_cases br2 : t_ < len
    · skip
      replace r : A1 l Z n0 D h 0 0 12 #[.val (.int t_), .val (.int len), .val (.int pp), .val (.int dc), .val (.long n_), .second, .val (.int ij), .val (.int q_), .val (.int jk), .unset, .unset] [] := Own.icmpYes r d1_6 (tlt br2).1 (by decide) (by decide)
      replace r : A1 l Z n0 D h 0 0 14 #[.val (.int t_), .val (.int len), .val (.int pp), .val (.int dc), .val (.long n_), .second, .val (.int ij), .val (.int q_), .val (.int jk), .unset, .unset] [(.int ij)] := Own.iload r d1_12 rfl
      by_cases br3 : ij = (0 : Int32)
      · skip
        replace r : A1 l Z n0 D h 0 0 26 #[.val (.int t_), .val (.int len), .val (.int pp), .val (.int dc), .val (.long n_), .second, .val (.int ij), .val (.int q_), .val (.int jk), .unset, .unset] [] := Own.ifYes r d1_14 ((if0 _ _).trans (teq br3).1) (by decide) (by decide)
        replace r : A1 l Z n0 D h 0 0 27 #[.val (.int t_), .val (.int len), .val (.int pp), .val (.int dc), .val (.long n_), .second, .val (.int ij), .val (.int q_), .val (.int jk), .unset, .unset] [(.int t_)] := Own.iloadN r d1_26 rfl
        replace r : A1 l Z n0 D h 0 0 28 #[.val (.int t_), .val (.int len), .val (.int pp), .val (.int dc), .val (.long n_), .second, .val (.int ij), .val (.int q_), .val (.int jk), .unset, .unset] [(.int pp), (.int t_)] := Own.iloadN r d1_27 rfl
        by_cases br4 : t_ = pp
        · skip
          replace r : A1 l Z n0 D h 0 0 31 #[.val (.int t_), .val (.int len), .val (.int pp), .val (.int dc), .val (.long n_), .second, .val (.int ij), .val (.int q_), .val (.int jk), .unset, .unset] [] := Own.icmpNo r d1_28 (teq br4).2
          replace r : A1 l Z n0 D h 0 0 33 #[.val (.int t_), .val (.int len), .val (.int pp), .val (.int dc), .val (.long n_), .second, .val (.int ij), .val (.int q_), .val (.int jk), .unset, .unset] [(.int (46 : Int32))] := Own.bipush r d1_31 rfl
          exact ⟨_, _, (Own.Rch.retB r d1_33 (by decide)).more (by decide) (by decide), K, _, rfl, ⟨fun q => absurd q br1, fun _ => ⟨fun _ => ⟨fun _ => ⟨fun _ => rfl, fun q => absurd br4 q⟩, fun q => absurd br3 q⟩, fun q => absurd br2 q⟩⟩⟩
        · skip
          replace r : A1 l Z n0 D h 0 0 34 #[.val (.int t_), .val (.int len), .val (.int pp), .val (.int dc), .val (.long n_), .second, .val (.int ij), .val (.int q_), .val (.int jk), .unset, .unset] [] := Own.icmpYes r d1_28 (feq br4).2 (by decide) (by decide)
          replace r : A1 l Z n0 D h 0 0 35 #[.val (.int t_), .val (.int len), .val (.int pp), .val (.int dc), .val (.long n_), .second, .val (.int ij), .val (.int q_), .val (.int jk), .unset, .unset] [(.int pp)] := Own.iloadN r d1_34 rfl
          obtain ⟨m5, e_m5, r⟩ : ∃ (m5 : Int32), m5 = (if pp < (0 : Int32) then t_ else (if pp < t_ then (t_ - (1 : Int32)) else t_)) ∧ A1 l Z n0 D h 0 0 50 #[.val (.int t_), .val (.int len), .val (.int pp), .val (.int dc), .val (.long n_), .second, .val (.int ij), .val (.int q_), .val (.int jk), .unset, .unset] [(.int m5)] := by
            by_cases br6 : pp < (0 : Int32)
            · skip
              replace r : A1 l Z n0 D h 0 0 49 #[.val (.int t_), .val (.int len), .val (.int pp), .val (.int dc), .val (.long n_), .second, .val (.int ij), .val (.int q_), .val (.int jk), .unset, .unset] [] := Own.ifYes r d1_35 ((if0 _ _).trans (tlt br6).1) (by decide) (by decide)
              replace r : A1 l Z n0 D h 0 0 50 #[.val (.int t_), .val (.int len), .val (.int pp), .val (.int dc), .val (.long n_), .second, .val (.int ij), .val (.int q_), .val (.int jk), .unset, .unset] [(.int t_)] := Own.iloadN r d1_49 rfl
              exact ⟨_, by rw [if_pos br6], r⟩
            · skip
              replace r : A1 l Z n0 D h 0 0 38 #[.val (.int t_), .val (.int len), .val (.int pp), .val (.int dc), .val (.long n_), .second, .val (.int ij), .val (.int q_), .val (.int jk), .unset, .unset] [] := Own.ifNo r d1_35 ((if0 _ _).trans (flt br6).1)
              replace r : A1 l Z n0 D h 0 0 39 #[.val (.int t_), .val (.int len), .val (.int pp), .val (.int dc), .val (.long n_), .second, .val (.int ij), .val (.int q_), .val (.int jk), .unset, .unset] [(.int t_)] := Own.iloadN r d1_38 rfl
              replace r : A1 l Z n0 D h 0 0 40 #[.val (.int t_), .val (.int len), .val (.int pp), .val (.int dc), .val (.long n_), .second, .val (.int ij), .val (.int q_), .val (.int jk), .unset, .unset] [(.int pp), (.int t_)] := Own.iloadN r d1_39 rfl
              by_cases br7 : pp < t_
              · skip
                replace r : A1 l Z n0 D h 0 0 43 #[.val (.int t_), .val (.int len), .val (.int pp), .val (.int dc), .val (.long n_), .second, .val (.int ij), .val (.int q_), .val (.int jk), .unset, .unset] [] := Own.icmpNo r d1_40 (tlt br7).2.2.2
                replace r : A1 l Z n0 D h 0 0 44 #[.val (.int t_), .val (.int len), .val (.int pp), .val (.int dc), .val (.long n_), .second, .val (.int ij), .val (.int q_), .val (.int jk), .unset, .unset] [(.int t_)] := Own.iloadN r d1_43 rfl
                replace r : A1 l Z n0 D h 0 0 45 #[.val (.int t_), .val (.int len), .val (.int pp), .val (.int dc), .val (.long n_), .second, .val (.int ij), .val (.int q_), .val (.int jk), .unset, .unset] [(.int (1 : Int32)), (.int t_)] := Own.iconst r d1_44 rfl
                replace r : A1 l Z n0 D h 0 0 46 #[.val (.int t_), .val (.int len), .val (.int pp), .val (.int dc), .val (.long n_), .second, .val (.int ij), .val (.int q_), .val (.int jk), .unset, .unset] [(.int (t_ - (1 : Int32)))] := Own.isub r d1_45
                replace r : A1 l Z n0 D h 0 0 50 #[.val (.int t_), .val (.int len), .val (.int pp), .val (.int dc), .val (.long n_), .second, .val (.int ij), .val (.int q_), .val (.int jk), .unset, .unset] [(.int (t_ - (1 : Int32)))] := Own.goto r d1_46 (by decide) (by decide)
                exact ⟨_, by rw [if_neg br6, if_pos br7], r⟩
              · skip
                replace r : A1 l Z n0 D h 0 0 49 #[.val (.int t_), .val (.int len), .val (.int pp), .val (.int dc), .val (.long n_), .second, .val (.int ij), .val (.int q_), .val (.int jk), .unset, .unset] [] := Own.icmpYes r d1_40 (flt br7).2.2.2 (by decide) (by decide)
                replace r : A1 l Z n0 D h 0 0 50 #[.val (.int t_), .val (.int len), .val (.int pp), .val (.int dc), .val (.long n_), .second, .val (.int ij), .val (.int q_), .val (.int jk), .unset, .unset] [(.int t_)] := Own.iloadN r d1_49 rfl
                exact ⟨_, by rw [if_neg br6, if_neg br7], r⟩
          replace r : A1 l Z n0 D h 0 0 52 #[.val (.int t_), .val (.int len), .val (.int pp), .val (.int dc), .val (.long n_), .second, .val (.int ij), .val (.int q_), .val (.int jk), .val (.int m5), .unset] [] := Own.istore r d1_50 rfl
          replace r : A1 l Z n0 D h 0 0 53 #[.val (.int t_), .val (.int len), .val (.int pp), .val (.int dc), .val (.long n_), .second, .val (.int ij), .val (.int q_), .val (.int jk), .val (.int m5), .unset] [(.int dc)] := Own.iloadN r d1_52 rfl
          replace r : A1 l Z n0 D h 0 0 54 #[.val (.int t_), .val (.int len), .val (.int pp), .val (.int dc), .val (.long n_), .second, .val (.int ij), .val (.int q_), .val (.int jk), .val (.int m5), .unset] [(.int (1 : Int32)), (.int dc)] := Own.iconst r d1_53 rfl
          replace r : A1 l Z n0 D h 0 0 55 #[.val (.int t_), .val (.int len), .val (.int pp), .val (.int dc), .val (.long n_), .second, .val (.int ij), .val (.int q_), .val (.int jk), .val (.int m5), .unset] [(.int (dc - (1 : Int32)))] := Own.isub r d1_54
          replace r : A1 l Z n0 D h 0 0 57 #[.val (.int t_), .val (.int len), .val (.int pp), .val (.int dc), .val (.long n_), .second, .val (.int ij), .val (.int q_), .val (.int jk), .val (.int m5), .unset] [(.int m5), (.int (dc - (1 : Int32)))] := Own.iload r d1_55 rfl
          replace r : A1 l Z n0 D h 0 0 58 #[.val (.int t_), .val (.int len), .val (.int pp), .val (.int dc), .val (.long n_), .second, .val (.int ij), .val (.int q_), .val (.int jk), .val (.int m5), .unset] [(.int ((dc - (1 : Int32)) - m5))] := Own.isub r d1_57
          obtain ⟨v10_8, e_v10_8⟩ : ∃ z : Int32, z = ((dc - (1 : Int32)) - m5) := ⟨_, rfl⟩
          replace r : A1 l Z n0 D h 0 0 58 #[.val (.int t_), .val (.int len), .val (.int pp), .val (.int dc), .val (.long n_), .second, .val (.int ij), .val (.int q_), .val (.int jk), .val (.int m5), .unset] [(.int v10_8)] := by rw [e_v10_8]; exact r
          replace r : A1 l Z n0 D h 0 0 60 #[.val (.int t_), .val (.int len), .val (.int pp), .val (.int dc), .val (.long n_), .second, .val (.int ij), .val (.int q_), .val (.int jk), .val (.int m5), .val (.int v10_8)] [] := Own.istore r d1_58 rfl
          replace r : A1 l Z n0 D h 0 0 62 #[.val (.int t_), .val (.int len), .val (.int pp), .val (.int dc), .val (.long n_), .second, .val (.int ij), .val (.int q_), .val (.int jk), .val (.int m5), .val (.int v10_8)] [(.int v10_8)] := Own.iload r d1_60 rfl
          replace r : A1 l Z n0 D h 0 0 64 #[.val (.int t_), .val (.int len), .val (.int pp), .val (.int dc), .val (.long n_), .second, .val (.int ij), .val (.int q_), .val (.int jk), .val (.int m5), .val (.int v10_8)] [(.int (19 : Int32)), (.int v10_8)] := Own.bipush r d1_62 rfl
          by_cases br9 : v10_8 < (19 : Int32)
          · skip
            replace r : A1 l Z n0 D h 0 0 70 #[.val (.int t_), .val (.int len), .val (.int pp), .val (.int dc), .val (.long n_), .second, .val (.int ij), .val (.int q_), .val (.int jk), .val (.int m5), .val (.int v10_8)] [] := Own.icmpYes r d1_64 (tlt br9).1 (by decide) (by decide)
            replace r : A1 l Z n0 D h 0 0 72 #[.val (.int t_), .val (.int len), .val (.int pp), .val (.int dc), .val (.long n_), .second, .val (.int ij), .val (.int q_), .val (.int jk), .val (.int m5), .val (.int v10_8)] [(.int (48 : Int32))] := Own.bipush r d1_70 rfl
            replace r : A1 l Z n0 D h 0 0 74 #[.val (.int t_), .val (.int len), .val (.int pp), .val (.int dc), .val (.long n_), .second, .val (.int ij), .val (.int q_), .val (.int jk), .val (.int m5), .val (.int v10_8)] [(.long n_), (.int (48 : Int32))] := Own.lload r d1_72 rfl
            replace r : A1 l Z n0 D h 0 0 76 #[.val (.int t_), .val (.int len), .val (.int pp), .val (.int dc), .val (.long n_), .second, .val (.int ij), .val (.int q_), .val (.int jk), .val (.int m5), .val (.int v10_8)] [(.int v10_8), (.long n_), (.int (48 : Int32))] := Own.iload r d1_74 rfl
            obtain ⟨rv10, h11, hQ12, r⟩ := Own.callS [(.int v10_8)] r d1_76 (c2 l Z a0 hw n0 h Zs v10_8 (own_k hA (by assumption) (by assumption) (by assumption) e_m5 e_v10_8 (by assumption)).1 (own_k hA (by assumption) (by assumption) (by assumption) e_m5 e_v10_8 (by assumption)).2) (hw _ (List.mem_of_getElem? (i := 7) rfl)) (hw _ (List.mem_of_getElem? (i := 8) rfl)) (hw _ (List.mem_of_getElem? (i := 5) rfl)) (hw _ (List.mem_of_getElem? (i := 9) rfl)) (lenOf pd_1_0 rfl) rfl rfl (W := 3) (Nat.le_of_eq rfl) rfl (by decide) (by decide) (by decide) (by decide) (by decide)
            obtain ⟨K13, y14, rfl, e_y14⟩ := hQ12
            replace Zs := Nat.le_trans Zs K13.1
            replace K := K.trans K13 (by simp)
            replace e_y14 : y14 = (own_p10 v10_8) := e_y14
            subst e_y14
            replace r : A1 l Z n0 D h11 1 19 79 #[.val (.int t_), .val (.int len), .val (.int pp), .val (.int dc), .val (.long n_), .second, .val (.int ij), .val (.int q_), .val (.int jk), .val (.int m5), .val (.int v10_8)] [(.long (own_p10 v10_8)), (.long n_), (.int (48 : Int32))] := r
            replace r : A1 l Z n0 D h11 1 19 80 #[.val (.int t_), .val (.int len), .val (.int pp), .val (.int dc), .val (.long n_), .second, .val (.int ij), .val (.int q_), .val (.int jk), .val (.int m5), .val (.int v10_8)] [(.long (n_ / (own_p10 v10_8))), (.int (48 : Int32))] := Own.ldiv r d1_79 (own_p10ne (own_k hA (by assumption) (by assumption) (by assumption) e_m5 e_v10_8 (by assumption)).1 (own_k hA (by assumption) (by assumption) (by assumption) e_m5 e_v10_8 (by assumption)).2)
            replace r : A1 l Z n0 D h11 1 19 83 #[.val (.int t_), .val (.int len), .val (.int pp), .val (.int dc), .val (.long n_), .second, .val (.int ij), .val (.int q_), .val (.int jk), .val (.int m5), .val (.int v10_8)] [(.long (10 : Int64)), (.long (n_ / (own_p10 v10_8))), (.int (48 : Int32))] := Own.ldcJ r d1_80 (hw _ (List.mem_of_getElem? (i := 11) rfl))
            replace r : A1 l Z n0 D h11 1 19 84 #[.val (.int t_), .val (.int len), .val (.int pp), .val (.int dc), .val (.long n_), .second, .val (.int ij), .val (.int q_), .val (.int jk), .val (.int m5), .val (.int v10_8)] [(.long (Own.lremW (n_ / (own_p10 v10_8)) (10 : Int64))), (.int (48 : Int32))] := Own.lrem r d1_83 (by decide)
            replace r : A1 l Z n0 D h11 1 19 85 #[.val (.int t_), .val (.int len), .val (.int pp), .val (.int dc), .val (.long n_), .second, .val (.int ij), .val (.int q_), .val (.int jk), .val (.int m5), .val (.int v10_8)] [(.int (Own.lremW (n_ / (own_p10 v10_8)) (10 : Int64)).toInt32), (.int (48 : Int32))] := Own.l2i r d1_84
            replace r : A1 l Z n0 D h11 1 19 86 #[.val (.int t_), .val (.int len), .val (.int pp), .val (.int dc), .val (.long n_), .second, .val (.int ij), .val (.int q_), .val (.int jk), .val (.int m5), .val (.int v10_8)] [(.int ((48 : Int32) + (Own.lremW (n_ / (own_p10 v10_8)) (10 : Int64)).toInt32))] := Own.iadd r d1_85
            replace r : A1 l Z n0 D h11 1 19 87 #[.val (.int t_), .val (.int len), .val (.int pp), .val (.int dc), .val (.long n_), .second, .val (.int ij), .val (.int q_), .val (.int jk), .val (.int m5), .val (.int v10_8)] [(.int (Own.i2bW ((48 : Int32) + (Own.lremW (n_ / (own_p10 v10_8)) (10 : Int64)).toInt32)))] := Own.i2b r d1_86
            exact ⟨_, _, (Own.Rch.retB r d1_87 (own_rb _)).more (by decide) (by decide), K, _, rfl, ⟨fun q => absurd q br1, fun _ => ⟨fun _ => ⟨fun _ => ⟨fun q => absurd q br4, fun _ => ⟨m5, e_m5, ⟨v10_8, e_v10_8, ⟨fun _ => rfl, fun q => absurd br9 q⟩⟩⟩⟩, fun q => absurd br3 q⟩, fun q => absurd br2 q⟩⟩⟩
          · skip
            replace r : A1 l Z n0 D h 0 0 67 #[.val (.int t_), .val (.int len), .val (.int pp), .val (.int dc), .val (.long n_), .second, .val (.int ij), .val (.int q_), .val (.int jk), .val (.int m5), .val (.int v10_8)] [] := Own.icmpNo r d1_64 (flt br9).1
            replace r : A1 l Z n0 D h 0 0 69 #[.val (.int t_), .val (.int len), .val (.int pp), .val (.int dc), .val (.long n_), .second, .val (.int ij), .val (.int q_), .val (.int jk), .val (.int m5), .val (.int v10_8)] [(.int (48 : Int32))] := Own.bipush r d1_67 rfl
            exact ⟨_, _, (Own.Rch.retB r d1_69 (by decide)).more (by decide) (by decide), K, _, rfl, ⟨fun q => absurd q br1, fun _ => ⟨fun _ => ⟨fun _ => ⟨fun q => absurd q br4, fun _ => ⟨m5, e_m5, ⟨v10_8, e_v10_8, ⟨fun q => absurd q br9, fun _ => rfl⟩⟩⟩⟩, fun q => absurd br3 q⟩, fun q => absurd br2 q⟩⟩⟩
      · skip
        replace r : A1 l Z n0 D h 0 0 17 #[.val (.int t_), .val (.int len), .val (.int pp), .val (.int dc), .val (.long n_), .second, .val (.int ij), .val (.int q_), .val (.int jk), .unset, .unset] [] := Own.ifNo r d1_14 ((if0 _ _).trans (feq br3).1)
        replace r : A1 l Z n0 D h 0 0 18 #[.val (.int t_), .val (.int len), .val (.int pp), .val (.int dc), .val (.long n_), .second, .val (.int ij), .val (.int q_), .val (.int jk), .unset, .unset] [(.int t_)] := Own.iloadN r d1_17 rfl
        replace r : A1 l Z n0 D h 0 0 20 #[.val (.int t_), .val (.int len), .val (.int pp), .val (.int dc), .val (.long n_), .second, .val (.int ij), .val (.int q_), .val (.int jk), .unset, .unset] [(.int q_), (.int t_)] := Own.iload r d1_18 rfl
        by_cases br15 : t_ = q_
        · skip
          replace r : A1 l Z n0 D h 0 0 23 #[.val (.int t_), .val (.int len), .val (.int pp), .val (.int dc), .val (.long n_), .second, .val (.int ij), .val (.int q_), .val (.int jk), .unset, .unset] [] := Own.icmpNo r d1_20 (teq br15).2
          replace r : A1 l Z n0 D h 0 0 25 #[.val (.int t_), .val (.int len), .val (.int pp), .val (.int dc), .val (.long n_), .second, .val (.int ij), .val (.int q_), .val (.int jk), .unset, .unset] [(.int jk)] := Own.iload r d1_23 rfl
          exact ⟨_, _, (Own.Rch.retB r d1_25 hj).more (by decide) (by decide), K, _, rfl, ⟨fun q => absurd q br1, fun _ => ⟨fun _ => ⟨fun q => absurd q br3, fun _ => ⟨fun _ => rfl, fun q => absurd br15 q⟩⟩, fun q => absurd br2 q⟩⟩⟩
        · skip
          replace r : A1 l Z n0 D h 0 0 26 #[.val (.int t_), .val (.int len), .val (.int pp), .val (.int dc), .val (.long n_), .second, .val (.int ij), .val (.int q_), .val (.int jk), .unset, .unset] [] := Own.icmpYes r d1_20 (feq br15).2 (by decide) (by decide)
          replace r : A1 l Z n0 D h 0 0 27 #[.val (.int t_), .val (.int len), .val (.int pp), .val (.int dc), .val (.long n_), .second, .val (.int ij), .val (.int q_), .val (.int jk), .unset, .unset] [(.int t_)] := Own.iloadN r d1_26 rfl
          replace r : A1 l Z n0 D h 0 0 28 #[.val (.int t_), .val (.int len), .val (.int pp), .val (.int dc), .val (.long n_), .second, .val (.int ij), .val (.int q_), .val (.int jk), .unset, .unset] [(.int pp), (.int t_)] := Own.iloadN r d1_27 rfl
          by_cases br16 : t_ = pp
          · skip
            replace r : A1 l Z n0 D h 0 0 31 #[.val (.int t_), .val (.int len), .val (.int pp), .val (.int dc), .val (.long n_), .second, .val (.int ij), .val (.int q_), .val (.int jk), .unset, .unset] [] := Own.icmpNo r d1_28 (teq br16).2
            replace r : A1 l Z n0 D h 0 0 33 #[.val (.int t_), .val (.int len), .val (.int pp), .val (.int dc), .val (.long n_), .second, .val (.int ij), .val (.int q_), .val (.int jk), .unset, .unset] [(.int (46 : Int32))] := Own.bipush r d1_31 rfl
            exact ⟨_, _, (Own.Rch.retB r d1_33 (by decide)).more (by decide) (by decide), K, _, rfl, ⟨fun q => absurd q br1, fun _ => ⟨fun _ => ⟨fun q => absurd q br3, fun _ => ⟨fun q => absurd q br15, fun _ => ⟨fun _ => rfl, fun q => absurd br16 q⟩⟩⟩, fun q => absurd br2 q⟩⟩⟩
          · skip
            replace r : A1 l Z n0 D h 0 0 34 #[.val (.int t_), .val (.int len), .val (.int pp), .val (.int dc), .val (.long n_), .second, .val (.int ij), .val (.int q_), .val (.int jk), .unset, .unset] [] := Own.icmpYes r d1_28 (feq br16).2 (by decide) (by decide)
            replace r : A1 l Z n0 D h 0 0 35 #[.val (.int t_), .val (.int len), .val (.int pp), .val (.int dc), .val (.long n_), .second, .val (.int ij), .val (.int q_), .val (.int jk), .unset, .unset] [(.int pp)] := Own.iloadN r d1_34 rfl
            obtain ⟨m17, e_m17, r⟩ : ∃ (m17 : Int32), m17 = (if pp < (0 : Int32) then t_ else (if pp < t_ then (t_ - (1 : Int32)) else t_)) ∧ A1 l Z n0 D h 0 0 50 #[.val (.int t_), .val (.int len), .val (.int pp), .val (.int dc), .val (.long n_), .second, .val (.int ij), .val (.int q_), .val (.int jk), .unset, .unset] [(.int m17)] := by
              by_cases br18 : pp < (0 : Int32)
              · skip
                replace r : A1 l Z n0 D h 0 0 49 #[.val (.int t_), .val (.int len), .val (.int pp), .val (.int dc), .val (.long n_), .second, .val (.int ij), .val (.int q_), .val (.int jk), .unset, .unset] [] := Own.ifYes r d1_35 ((if0 _ _).trans (tlt br18).1) (by decide) (by decide)
                replace r : A1 l Z n0 D h 0 0 50 #[.val (.int t_), .val (.int len), .val (.int pp), .val (.int dc), .val (.long n_), .second, .val (.int ij), .val (.int q_), .val (.int jk), .unset, .unset] [(.int t_)] := Own.iloadN r d1_49 rfl
                exact ⟨_, by rw [if_pos br18], r⟩
              · skip
                replace r : A1 l Z n0 D h 0 0 38 #[.val (.int t_), .val (.int len), .val (.int pp), .val (.int dc), .val (.long n_), .second, .val (.int ij), .val (.int q_), .val (.int jk), .unset, .unset] [] := Own.ifNo r d1_35 ((if0 _ _).trans (flt br18).1)
                replace r : A1 l Z n0 D h 0 0 39 #[.val (.int t_), .val (.int len), .val (.int pp), .val (.int dc), .val (.long n_), .second, .val (.int ij), .val (.int q_), .val (.int jk), .unset, .unset] [(.int t_)] := Own.iloadN r d1_38 rfl
                replace r : A1 l Z n0 D h 0 0 40 #[.val (.int t_), .val (.int len), .val (.int pp), .val (.int dc), .val (.long n_), .second, .val (.int ij), .val (.int q_), .val (.int jk), .unset, .unset] [(.int pp), (.int t_)] := Own.iloadN r d1_39 rfl
                by_cases br19 : pp < t_
                · skip
                  replace r : A1 l Z n0 D h 0 0 43 #[.val (.int t_), .val (.int len), .val (.int pp), .val (.int dc), .val (.long n_), .second, .val (.int ij), .val (.int q_), .val (.int jk), .unset, .unset] [] := Own.icmpNo r d1_40 (tlt br19).2.2.2
                  replace r : A1 l Z n0 D h 0 0 44 #[.val (.int t_), .val (.int len), .val (.int pp), .val (.int dc), .val (.long n_), .second, .val (.int ij), .val (.int q_), .val (.int jk), .unset, .unset] [(.int t_)] := Own.iloadN r d1_43 rfl
                  replace r : A1 l Z n0 D h 0 0 45 #[.val (.int t_), .val (.int len), .val (.int pp), .val (.int dc), .val (.long n_), .second, .val (.int ij), .val (.int q_), .val (.int jk), .unset, .unset] [(.int (1 : Int32)), (.int t_)] := Own.iconst r d1_44 rfl
                  replace r : A1 l Z n0 D h 0 0 46 #[.val (.int t_), .val (.int len), .val (.int pp), .val (.int dc), .val (.long n_), .second, .val (.int ij), .val (.int q_), .val (.int jk), .unset, .unset] [(.int (t_ - (1 : Int32)))] := Own.isub r d1_45
                  replace r : A1 l Z n0 D h 0 0 50 #[.val (.int t_), .val (.int len), .val (.int pp), .val (.int dc), .val (.long n_), .second, .val (.int ij), .val (.int q_), .val (.int jk), .unset, .unset] [(.int (t_ - (1 : Int32)))] := Own.goto r d1_46 (by decide) (by decide)
                  exact ⟨_, by rw [if_neg br18, if_pos br19], r⟩
                · skip
                  replace r : A1 l Z n0 D h 0 0 49 #[.val (.int t_), .val (.int len), .val (.int pp), .val (.int dc), .val (.long n_), .second, .val (.int ij), .val (.int q_), .val (.int jk), .unset, .unset] [] := Own.icmpYes r d1_40 (flt br19).2.2.2 (by decide) (by decide)
                  replace r : A1 l Z n0 D h 0 0 50 #[.val (.int t_), .val (.int len), .val (.int pp), .val (.int dc), .val (.long n_), .second, .val (.int ij), .val (.int q_), .val (.int jk), .unset, .unset] [(.int t_)] := Own.iloadN r d1_49 rfl
                  exact ⟨_, by rw [if_neg br18, if_neg br19], r⟩
            replace r : A1 l Z n0 D h 0 0 52 #[.val (.int t_), .val (.int len), .val (.int pp), .val (.int dc), .val (.long n_), .second, .val (.int ij), .val (.int q_), .val (.int jk), .val (.int m17), .unset] [] := Own.istore r d1_50 rfl
            replace r : A1 l Z n0 D h 0 0 53 #[.val (.int t_), .val (.int len), .val (.int pp), .val (.int dc), .val (.long n_), .second, .val (.int ij), .val (.int q_), .val (.int jk), .val (.int m17), .unset] [(.int dc)] := Own.iloadN r d1_52 rfl
            replace r : A1 l Z n0 D h 0 0 54 #[.val (.int t_), .val (.int len), .val (.int pp), .val (.int dc), .val (.long n_), .second, .val (.int ij), .val (.int q_), .val (.int jk), .val (.int m17), .unset] [(.int (1 : Int32)), (.int dc)] := Own.iconst r d1_53 rfl
            replace r : A1 l Z n0 D h 0 0 55 #[.val (.int t_), .val (.int len), .val (.int pp), .val (.int dc), .val (.long n_), .second, .val (.int ij), .val (.int q_), .val (.int jk), .val (.int m17), .unset] [(.int (dc - (1 : Int32)))] := Own.isub r d1_54
            replace r : A1 l Z n0 D h 0 0 57 #[.val (.int t_), .val (.int len), .val (.int pp), .val (.int dc), .val (.long n_), .second, .val (.int ij), .val (.int q_), .val (.int jk), .val (.int m17), .unset] [(.int m17), (.int (dc - (1 : Int32)))] := Own.iload r d1_55 rfl
            replace r : A1 l Z n0 D h 0 0 58 #[.val (.int t_), .val (.int len), .val (.int pp), .val (.int dc), .val (.long n_), .second, .val (.int ij), .val (.int q_), .val (.int jk), .val (.int m17), .unset] [(.int ((dc - (1 : Int32)) - m17))] := Own.isub r d1_57
            obtain ⟨v10_20, e_v10_20⟩ : ∃ z : Int32, z = ((dc - (1 : Int32)) - m17) := ⟨_, rfl⟩
            replace r : A1 l Z n0 D h 0 0 58 #[.val (.int t_), .val (.int len), .val (.int pp), .val (.int dc), .val (.long n_), .second, .val (.int ij), .val (.int q_), .val (.int jk), .val (.int m17), .unset] [(.int v10_20)] := by rw [e_v10_20]; exact r
            replace r : A1 l Z n0 D h 0 0 60 #[.val (.int t_), .val (.int len), .val (.int pp), .val (.int dc), .val (.long n_), .second, .val (.int ij), .val (.int q_), .val (.int jk), .val (.int m17), .val (.int v10_20)] [] := Own.istore r d1_58 rfl
            replace r : A1 l Z n0 D h 0 0 62 #[.val (.int t_), .val (.int len), .val (.int pp), .val (.int dc), .val (.long n_), .second, .val (.int ij), .val (.int q_), .val (.int jk), .val (.int m17), .val (.int v10_20)] [(.int v10_20)] := Own.iload r d1_60 rfl
            replace r : A1 l Z n0 D h 0 0 64 #[.val (.int t_), .val (.int len), .val (.int pp), .val (.int dc), .val (.long n_), .second, .val (.int ij), .val (.int q_), .val (.int jk), .val (.int m17), .val (.int v10_20)] [(.int (19 : Int32)), (.int v10_20)] := Own.bipush r d1_62 rfl
            by_cases br21 : v10_20 < (19 : Int32)
            · skip
              replace r : A1 l Z n0 D h 0 0 70 #[.val (.int t_), .val (.int len), .val (.int pp), .val (.int dc), .val (.long n_), .second, .val (.int ij), .val (.int q_), .val (.int jk), .val (.int m17), .val (.int v10_20)] [] := Own.icmpYes r d1_64 (tlt br21).1 (by decide) (by decide)
              replace r : A1 l Z n0 D h 0 0 72 #[.val (.int t_), .val (.int len), .val (.int pp), .val (.int dc), .val (.long n_), .second, .val (.int ij), .val (.int q_), .val (.int jk), .val (.int m17), .val (.int v10_20)] [(.int (48 : Int32))] := Own.bipush r d1_70 rfl
              replace r : A1 l Z n0 D h 0 0 74 #[.val (.int t_), .val (.int len), .val (.int pp), .val (.int dc), .val (.long n_), .second, .val (.int ij), .val (.int q_), .val (.int jk), .val (.int m17), .val (.int v10_20)] [(.long n_), (.int (48 : Int32))] := Own.lload r d1_72 rfl
              replace r : A1 l Z n0 D h 0 0 76 #[.val (.int t_), .val (.int len), .val (.int pp), .val (.int dc), .val (.long n_), .second, .val (.int ij), .val (.int q_), .val (.int jk), .val (.int m17), .val (.int v10_20)] [(.int v10_20), (.long n_), (.int (48 : Int32))] := Own.iload r d1_74 rfl
              obtain ⟨rv22, h23, hQ24, r⟩ := Own.callS [(.int v10_20)] r d1_76 (c2 l Z a0 hw n0 h Zs v10_20 (own_k hA (by assumption) (by assumption) (by assumption) e_m17 e_v10_20 (by assumption)).1 (own_k hA (by assumption) (by assumption) (by assumption) e_m17 e_v10_20 (by assumption)).2) (hw _ (List.mem_of_getElem? (i := 7) rfl)) (hw _ (List.mem_of_getElem? (i := 8) rfl)) (hw _ (List.mem_of_getElem? (i := 5) rfl)) (hw _ (List.mem_of_getElem? (i := 9) rfl)) (lenOf pd_1_0 rfl) rfl rfl (W := 3) (Nat.le_of_eq rfl) rfl (by decide) (by decide) (by decide) (by decide) (by decide)
              obtain ⟨K25, y26, rfl, e_y26⟩ := hQ24
              replace Zs := Nat.le_trans Zs K25.1
              replace K := K.trans K25 (by simp)
              replace e_y26 : y26 = (own_p10 v10_20) := e_y26
              subst e_y26
              replace r : A1 l Z n0 D h23 1 19 79 #[.val (.int t_), .val (.int len), .val (.int pp), .val (.int dc), .val (.long n_), .second, .val (.int ij), .val (.int q_), .val (.int jk), .val (.int m17), .val (.int v10_20)] [(.long (own_p10 v10_20)), (.long n_), (.int (48 : Int32))] := r
              replace r : A1 l Z n0 D h23 1 19 80 #[.val (.int t_), .val (.int len), .val (.int pp), .val (.int dc), .val (.long n_), .second, .val (.int ij), .val (.int q_), .val (.int jk), .val (.int m17), .val (.int v10_20)] [(.long (n_ / (own_p10 v10_20))), (.int (48 : Int32))] := Own.ldiv r d1_79 (own_p10ne (own_k hA (by assumption) (by assumption) (by assumption) e_m17 e_v10_20 (by assumption)).1 (own_k hA (by assumption) (by assumption) (by assumption) e_m17 e_v10_20 (by assumption)).2)
              replace r : A1 l Z n0 D h23 1 19 83 #[.val (.int t_), .val (.int len), .val (.int pp), .val (.int dc), .val (.long n_), .second, .val (.int ij), .val (.int q_), .val (.int jk), .val (.int m17), .val (.int v10_20)] [(.long (10 : Int64)), (.long (n_ / (own_p10 v10_20))), (.int (48 : Int32))] := Own.ldcJ r d1_80 (hw _ (List.mem_of_getElem? (i := 11) rfl))
              replace r : A1 l Z n0 D h23 1 19 84 #[.val (.int t_), .val (.int len), .val (.int pp), .val (.int dc), .val (.long n_), .second, .val (.int ij), .val (.int q_), .val (.int jk), .val (.int m17), .val (.int v10_20)] [(.long (Own.lremW (n_ / (own_p10 v10_20)) (10 : Int64))), (.int (48 : Int32))] := Own.lrem r d1_83 (by decide)
              replace r : A1 l Z n0 D h23 1 19 85 #[.val (.int t_), .val (.int len), .val (.int pp), .val (.int dc), .val (.long n_), .second, .val (.int ij), .val (.int q_), .val (.int jk), .val (.int m17), .val (.int v10_20)] [(.int (Own.lremW (n_ / (own_p10 v10_20)) (10 : Int64)).toInt32), (.int (48 : Int32))] := Own.l2i r d1_84
              replace r : A1 l Z n0 D h23 1 19 86 #[.val (.int t_), .val (.int len), .val (.int pp), .val (.int dc), .val (.long n_), .second, .val (.int ij), .val (.int q_), .val (.int jk), .val (.int m17), .val (.int v10_20)] [(.int ((48 : Int32) + (Own.lremW (n_ / (own_p10 v10_20)) (10 : Int64)).toInt32))] := Own.iadd r d1_85
              replace r : A1 l Z n0 D h23 1 19 87 #[.val (.int t_), .val (.int len), .val (.int pp), .val (.int dc), .val (.long n_), .second, .val (.int ij), .val (.int q_), .val (.int jk), .val (.int m17), .val (.int v10_20)] [(.int (Own.i2bW ((48 : Int32) + (Own.lremW (n_ / (own_p10 v10_20)) (10 : Int64)).toInt32)))] := Own.i2b r d1_86
              exact ⟨_, _, (Own.Rch.retB r d1_87 (own_rb _)).more (by decide) (by decide), K, _, rfl, ⟨fun q => absurd q br1, fun _ => ⟨fun _ => ⟨fun q => absurd q br3, fun _ => ⟨fun q => absurd q br15, fun _ => ⟨fun q => absurd q br16, fun _ => ⟨m17, e_m17, ⟨v10_20, e_v10_20, ⟨fun _ => rfl, fun q => absurd br21 q⟩⟩⟩⟩⟩⟩, fun q => absurd br2 q⟩⟩⟩
            · skip
              replace r : A1 l Z n0 D h 0 0 67 #[.val (.int t_), .val (.int len), .val (.int pp), .val (.int dc), .val (.long n_), .second, .val (.int ij), .val (.int q_), .val (.int jk), .val (.int m17), .val (.int v10_20)] [] := Own.icmpNo r d1_64 (flt br21).1
              replace r : A1 l Z n0 D h 0 0 69 #[.val (.int t_), .val (.int len), .val (.int pp), .val (.int dc), .val (.long n_), .second, .val (.int ij), .val (.int q_), .val (.int jk), .val (.int m17), .val (.int v10_20)] [(.int (48 : Int32))] := Own.bipush r d1_67 rfl
              exact ⟨_, _, (Own.Rch.retB r d1_69 (by decide)).more (by decide) (by decide), K, _, rfl, ⟨fun q => absurd q br1, fun _ => ⟨fun _ => ⟨fun q => absurd q br3, fun _ => ⟨fun q => absurd q br15, fun _ => ⟨fun q => absurd q br16, fun _ => ⟨m17, e_m17, ⟨v10_20, e_v10_20, ⟨fun q => absurd q br21, fun _ => rfl⟩⟩⟩⟩⟩⟩, fun q => absurd br2 q⟩⟩⟩
    · skip
      replace r : A1 l Z n0 D h 0 0 9 #[.val (.int t_), .val (.int len), .val (.int pp), .val (.int dc), .val (.long n_), .second, .val (.int ij), .val (.int q_), .val (.int jk), .unset, .unset] [] := Own.icmpNo r d1_6 (flt br2).1
      replace r : A1 l Z n0 D h 0 0 11 #[.val (.int t_), .val (.int len), .val (.int pp), .val (.int dc), .val (.long n_), .second, .val (.int ij), .val (.int q_), .val (.int jk), .unset, .unset] [(.int (53 : Int32))] := Own.bipush r d1_9 rfl
      exact ⟨_, _, (Own.Rch.retB r d1_11 (by decide)).more (by decide) (by decide), K, _, rfl, ⟨fun q => absurd q br1, fun _ => ⟨fun q => absurd q br2, fun _ => rfl⟩⟩⟩
theorem d4_0 : decode method_4_code 0 = .ok (.iload_n 0, 1) := by decide +kernel
theorem d4_1 : decode method_4_code 1 = .ok (.ifCond .eq 9, 3) := by decide +kernel
theorem d4_4 : decode method_4_code 4 = .ok (.iload_n 0, 1) := by decide +kernel
theorem d4_5 : decode method_4_code 5 = .ok (.bipush 19, 2) := by decide +kernel
theorem d4_7 : decode method_4_code 7 = .ok (.if_icmp .le 7, 3) := by decide +kernel
theorem d4_10 : decode method_4_code 10 = .ok (.ldc2_w 25, 3) := by decide +kernel
theorem d4_13 : decode method_4_code 13 = .ok (.lreturn, 1) := by decide +kernel
theorem d4_14 : decode method_4_code 14 = .ok (.iload_n 1, 1) := by decide +kernel
theorem d4_15 : decode method_4_code 15 = .ok (.ifCond .ne 7, 3) := by decide +kernel
theorem d4_18 : decode method_4_code 18 = .ok (.ldc2_w 25, 3) := by decide +kernel
theorem d4_21 : decode method_4_code 21 = .ok (.lreturn, 1) := by decide +kernel
theorem d4_22 : decode method_4_code 22 = .ok (.iload_n 1, 1) := by decide +kernel
theorem d4_23 : decode method_4_code 23 = .ok (.ifCond .le 12, 3) := by decide +kernel
theorem d4_26 : decode method_4_code 26 = .ok (.iload 4, 2) := by decide +kernel
theorem d4_28 : decode method_4_code 28 = .ok (.ifCond .ne 7, 3) := by decide +kernel
theorem d4_31 : decode method_4_code 31 = .ok (.ldc2_w 25, 3) := by decide +kernel
theorem d4_34 : decode method_4_code 34 = .ok (.lreturn, 1) := by decide +kernel
theorem d4_35 : decode method_4_code 35 = .ok (.iload 4, 2) := by decide +kernel
theorem d4_37 : decode method_4_code 37 = .ok (.iload 5, 2) := by decide +kernel
theorem d4_39 : decode method_4_code 39 = .ok (.if_icmp .le 7, 3) := by decide +kernel
theorem d4_42 : decode method_4_code 42 = .ok (.ldc2_w 25, 3) := by decide +kernel
theorem d4_45 : decode method_4_code 45 = .ok (.lreturn, 1) := by decide +kernel
theorem d4_46 : decode method_4_code 46 = .ok (.iload_n 3, 1) := by decide +kernel
theorem d4_47 : decode method_4_code 47 = .ok (.iload 5, 2) := by decide +kernel
theorem d4_49 : decode method_4_code 49 = .ok (.iadd, 1) := by decide +kernel
theorem d4_50 : decode method_4_code 50 = .ok (.bipush 18, 2) := by decide +kernel
theorem d4_52 : decode method_4_code 52 = .ok (.if_icmp .le 7, 3) := by decide +kernel
theorem d4_55 : decode method_4_code 55 = .ok (.ldc2_w 25, 3) := by decide +kernel
theorem d4_58 : decode method_4_code 58 = .ok (.lreturn, 1) := by decide +kernel
theorem d4_59 : decode method_4_code 59 = .ok (.lload 6, 2) := by decide +kernel
theorem d4_61 : decode method_4_code 61 = .ok (.iload_n 2, 1) := by decide +kernel
theorem d4_62 : decode method_4_code 62 = .ok (.invokestatic 31, 3) := by decide +kernel
theorem d4_65 : decode method_4_code 65 = .ok (.lrem, 1) := by decide +kernel
theorem d4_66 : decode method_4_code 66 = .ok (.iload 5, 2) := by decide +kernel
theorem d4_68 : decode method_4_code 68 = .ok (.iload 4, 2) := by decide +kernel
theorem d4_70 : decode method_4_code 70 = .ok (.isub, 1) := by decide +kernel
theorem d4_71 : decode method_4_code 71 = .ok (.invokestatic 31, 3) := by decide +kernel
theorem d4_74 : decode method_4_code 74 = .ok (.lmul, 1) := by decide +kernel
theorem d4_75 : decode method_4_code 75 = .ok (.lreturn, 1) := by decide +kernel
theorem pd_4_0 : parseMethodDescriptor "(I)J" = some ⟨[.int], some .long⟩ := by decide +kernel
theorem pn_4 : plainFor (⟨"com/example/debit/debit/csv/DecimalTextScaledPinLaw", "expected", "(IIIIIIJ)J"⟩ : MethodName) = true := plainFor_of_name (by first | (simp [plainName, overriddenIn, x]; done) | decide +kernel)
theorem ef_4 (len : Int32) (pp : Int32) (dc : Int32) (w_ : Int32) (d_ : Int32) (p_ : Int32) (n_ : Int64) (m : MethodId) : entryFrame m #[(.int len), (.int pp), (.int dc), (.int w_), (.int d_), (.int p_), (.long n_)] 8 = mkF m 0 #[.val (.int len), .val (.int pp), .val (.int dc), .val (.int w_), .val (.int d_), .val (.int p_), .val (.long n_), .second] [] := by first | (simp [entryFrame, mkF, argsToLocals, Value.category, maxLocals]; done) | rfl
abbrev R4 : Room := ({ frames := 1, cells := 2, slots := 38, locals := 15 } : Room)
abbrev A4 (l : Launch) (Z : State) (n0 : Nat) (D : Own.Dyn) := Own.Rch l Z n0 R4 (⟨"com/example/debit/debit/csv/DecimalTextScaledPinLaw", "expected", "(IIIIIIJ)J"⟩ : MethodName) method_4_code 8 (some .long) D
def S4 (len : Int32) (pp : Int32) (dc : Int32) (w_ : Int32) (d_ : Int32) (p_ : Int32) (n_ : Int64) (w : Int64) : Prop := ((len = (0 : Int32) → w = (-1 : Int64)) ∧ (¬ (len = (0 : Int32)) → (((19 : Int32) < len → w = (-1 : Int64)) ∧ (¬ ((19 : Int32) < len) → ((pp = (0 : Int32) → w = (-1 : Int64)) ∧ (¬ (pp = (0 : Int32)) → (((0 : Int32) < pp → ((d_ = (0 : Int32) → w = (-1 : Int64)) ∧ (¬ (d_ = (0 : Int32)) → ((p_ < d_ → w = (-1 : Int64)) ∧ (¬ (p_ < d_) → (((18 : Int32) < (w_ + p_) → w = (-1 : Int64)) ∧ (¬ ((18 : Int32) < (w_ + p_)) → w = ((Own.lremW n_ (own_p10 dc)) * (own_p10 (p_ - d_)))))))))) ∧ (¬ ((0 : Int32) < pp) → ((p_ < d_ → w = (-1 : Int64)) ∧ (¬ (p_ < d_) → (((18 : Int32) < (w_ + p_) → w = (-1 : Int64)) ∧ (¬ ((18 : Int32) < (w_ + p_)) → w = ((Own.lremW n_ (own_p10 dc)) * (own_p10 (p_ - d_)))))))))))))))
set_option maxRecDepth 65536 in
set_option maxHeartbeats 40000000 in
theorem c4 (l : Launch) (Z : State) (a0 : Array Value) (hw : ∀ d ∈ tables_1, d.before a0 Z = true) (n0 : Nat) (h : Heap) (Zs : n0 ≤ h.size) (len : Int32) (pp : Int32) (dc : Int32) (w_ : Int32) (d_ : Int32) (p_ : Int32) (n_ : Int64) (hE : own_ep len pp dc w_ d_ p_) :
    Own.Con l Z n0 (⟨"com/example/debit/debit/csv/DecimalTextScaledPinLaw", "expected", "(IIIIIIJ)J"⟩ : MethodName) method_4_code 8 (some .long) R4 #[(.int len), (.int pp), (.int dc), (.int w_), (.int d_), (.int p_), (.long n_)] h (fun v h' => Keep h h' [] ∧ ∃ w : Int64, v = some (.long w) ∧ S4 len pp dc w_ d_ p_ n_ w) := by
  refine Own.Con.enter pn_4 (ef_4 len pp dc w_ d_ p_ n_) fun D r => ?_
  have K : Keep h h [] := Keep.refl _ _
  replace r : A4 l Z n0 D h 0 0 1 #[.val (.int len), .val (.int pp), .val (.int dc), .val (.int w_), .val (.int d_), .val (.int p_), .val (.long n_), .second] [(.int len)] := Own.iloadN r d4_0 rfl
  by_cases br1 : len = (0 : Int32)
  · skip
    replace r : A4 l Z n0 D h 0 0 10 #[.val (.int len), .val (.int pp), .val (.int dc), .val (.int w_), .val (.int d_), .val (.int p_), .val (.long n_), .second] [] := Own.ifYes r d4_1 ((if0 _ _).trans (teq br1).1) (by decide) (by decide)
    replace r : A4 l Z n0 D h 0 0 13 #[.val (.int len), .val (.int pp), .val (.int dc), .val (.int w_), .val (.int d_), .val (.int p_), .val (.long n_), .second] [(.long (-1 : Int64))] := Own.ldcJ r d4_10 (hw _ (List.mem_of_getElem? (i := 38) rfl))
    exact ⟨_, _, (Own.Rch.retJ r d4_13).more (by decide) (by decide), K, _, rfl, ⟨fun _ => rfl, fun q => absurd br1 q⟩⟩
  · skip
    replace r : A4 l Z n0 D h 0 0 4 #[.val (.int len), .val (.int pp), .val (.int dc), .val (.int w_), .val (.int d_), .val (.int p_), .val (.long n_), .second] [] := Own.ifNo r d4_1 ((if0 _ _).trans (feq br1).1)
    replace r : A4 l Z n0 D h 0 0 5 #[.val (.int len), .val (.int pp), .val (.int dc), .val (.int w_), .val (.int d_), .val (.int p_), .val (.long n_), .second] [(.int len)] := Own.iloadN r d4_4 rfl
    replace r : A4 l Z n0 D h 0 0 7 #[.val (.int len), .val (.int pp), .val (.int dc), .val (.int w_), .val (.int d_), .val (.int p_), .val (.long n_), .second] [(.int (19 : Int32)), (.int len)] := Own.bipush r d4_5 rfl
    by_cases br2 : (19 : Int32) < len
    · skip
      replace r : A4 l Z n0 D h 0 0 10 #[.val (.int len), .val (.int pp), .val (.int dc), .val (.int w_), .val (.int d_), .val (.int p_), .val (.long n_), .second] [] := Own.icmpNo r d4_7 (tlt br2).2.2.2
      replace r : A4 l Z n0 D h 0 0 13 #[.val (.int len), .val (.int pp), .val (.int dc), .val (.int w_), .val (.int d_), .val (.int p_), .val (.long n_), .second] [(.long (-1 : Int64))] := Own.ldcJ r d4_10 (hw _ (List.mem_of_getElem? (i := 38) rfl))
      exact ⟨_, _, (Own.Rch.retJ r d4_13).more (by decide) (by decide), K, _, rfl, ⟨fun q => absurd q br1, fun _ => ⟨fun _ => rfl, fun q => absurd br2 q⟩⟩⟩
    · skip
      replace r : A4 l Z n0 D h 0 0 14 #[.val (.int len), .val (.int pp), .val (.int dc), .val (.int w_), .val (.int d_), .val (.int p_), .val (.long n_), .second] [] := Own.icmpYes r d4_7 (flt br2).2.2.2 (by decide) (by decide)
      replace r : A4 l Z n0 D h 0 0 15 #[.val (.int len), .val (.int pp), .val (.int dc), .val (.int w_), .val (.int d_), .val (.int p_), .val (.long n_), .second] [(.int pp)] := Own.iloadN r d4_14 rfl
      by_cases br3 : pp = (0 : Int32)
      · skip
        replace r : A4 l Z n0 D h 0 0 18 #[.val (.int len), .val (.int pp), .val (.int dc), .val (.int w_), .val (.int d_), .val (.int p_), .val (.long n_), .second] [] := Own.ifNo r d4_15 ((if0 _ _).trans (teq br3).2)
        replace r : A4 l Z n0 D h 0 0 21 #[.val (.int len), .val (.int pp), .val (.int dc), .val (.int w_), .val (.int d_), .val (.int p_), .val (.long n_), .second] [(.long (-1 : Int64))] := Own.ldcJ r d4_18 (hw _ (List.mem_of_getElem? (i := 38) rfl))
        exact ⟨_, _, (Own.Rch.retJ r d4_21).more (by decide) (by decide), K, _, rfl, ⟨fun q => absurd q br1, fun _ => ⟨fun q => absurd q br2, fun _ => ⟨fun _ => rfl, fun q => absurd br3 q⟩⟩⟩⟩
      · skip
        replace r : A4 l Z n0 D h 0 0 22 #[.val (.int len), .val (.int pp), .val (.int dc), .val (.int w_), .val (.int d_), .val (.int p_), .val (.long n_), .second] [] := Own.ifYes r d4_15 ((if0 _ _).trans (feq br3).2) (by decide) (by decide)
        replace r : A4 l Z n0 D h 0 0 23 #[.val (.int len), .val (.int pp), .val (.int dc), .val (.int w_), .val (.int d_), .val (.int p_), .val (.long n_), .second] [(.int pp)] := Own.iloadN r d4_22 rfl
        by_cases br4 : (0 : Int32) < pp
        · skip
          replace r : A4 l Z n0 D h 0 0 26 #[.val (.int len), .val (.int pp), .val (.int dc), .val (.int w_), .val (.int d_), .val (.int p_), .val (.long n_), .second] [] := Own.ifNo r d4_23 ((if0 _ _).trans (tlt br4).2.2.2)
          replace r : A4 l Z n0 D h 0 0 28 #[.val (.int len), .val (.int pp), .val (.int dc), .val (.int w_), .val (.int d_), .val (.int p_), .val (.long n_), .second] [(.int d_)] := Own.iload r d4_26 rfl
          by_cases br5 : d_ = (0 : Int32)
          · skip
            replace r : A4 l Z n0 D h 0 0 31 #[.val (.int len), .val (.int pp), .val (.int dc), .val (.int w_), .val (.int d_), .val (.int p_), .val (.long n_), .second] [] := Own.ifNo r d4_28 ((if0 _ _).trans (teq br5).2)
            replace r : A4 l Z n0 D h 0 0 34 #[.val (.int len), .val (.int pp), .val (.int dc), .val (.int w_), .val (.int d_), .val (.int p_), .val (.long n_), .second] [(.long (-1 : Int64))] := Own.ldcJ r d4_31 (hw _ (List.mem_of_getElem? (i := 38) rfl))
            exact ⟨_, _, (Own.Rch.retJ r d4_34).more (by decide) (by decide), K, _, rfl, ⟨fun q => absurd q br1, fun _ => ⟨fun q => absurd q br2, fun _ => ⟨fun q => absurd q br3, fun _ => ⟨fun _ => ⟨fun _ => rfl, fun q => absurd br5 q⟩, fun q => absurd br4 q⟩⟩⟩⟩⟩
          · skip
            replace r : A4 l Z n0 D h 0 0 35 #[.val (.int len), .val (.int pp), .val (.int dc), .val (.int w_), .val (.int d_), .val (.int p_), .val (.long n_), .second] [] := Own.ifYes r d4_28 ((if0 _ _).trans (feq br5).2) (by decide) (by decide)
            replace r : A4 l Z n0 D h 0 0 37 #[.val (.int len), .val (.int pp), .val (.int dc), .val (.int w_), .val (.int d_), .val (.int p_), .val (.long n_), .second] [(.int d_)] := Own.iload r d4_35 rfl
            replace r : A4 l Z n0 D h 0 0 39 #[.val (.int len), .val (.int pp), .val (.int dc), .val (.int w_), .val (.int d_), .val (.int p_), .val (.long n_), .second] [(.int p_), (.int d_)] := Own.iload r d4_37 rfl
            by_cases br6 : p_ < d_
            · skip
              replace r : A4 l Z n0 D h 0 0 42 #[.val (.int len), .val (.int pp), .val (.int dc), .val (.int w_), .val (.int d_), .val (.int p_), .val (.long n_), .second] [] := Own.icmpNo r d4_39 (tlt br6).2.2.2
              replace r : A4 l Z n0 D h 0 0 45 #[.val (.int len), .val (.int pp), .val (.int dc), .val (.int w_), .val (.int d_), .val (.int p_), .val (.long n_), .second] [(.long (-1 : Int64))] := Own.ldcJ r d4_42 (hw _ (List.mem_of_getElem? (i := 38) rfl))
              exact ⟨_, _, (Own.Rch.retJ r d4_45).more (by decide) (by decide), K, _, rfl, ⟨fun q => absurd q br1, fun _ => ⟨fun q => absurd q br2, fun _ => ⟨fun q => absurd q br3, fun _ => ⟨fun _ => ⟨fun q => absurd q br5, fun _ => ⟨fun _ => rfl, fun q => absurd br6 q⟩⟩, fun q => absurd br4 q⟩⟩⟩⟩⟩
            · skip
              replace r : A4 l Z n0 D h 0 0 46 #[.val (.int len), .val (.int pp), .val (.int dc), .val (.int w_), .val (.int d_), .val (.int p_), .val (.long n_), .second] [] := Own.icmpYes r d4_39 (flt br6).2.2.2 (by decide) (by decide)
              replace r : A4 l Z n0 D h 0 0 47 #[.val (.int len), .val (.int pp), .val (.int dc), .val (.int w_), .val (.int d_), .val (.int p_), .val (.long n_), .second] [(.int w_)] := Own.iloadN r d4_46 rfl
              replace r : A4 l Z n0 D h 0 0 49 #[.val (.int len), .val (.int pp), .val (.int dc), .val (.int w_), .val (.int d_), .val (.int p_), .val (.long n_), .second] [(.int p_), (.int w_)] := Own.iload r d4_47 rfl
              replace r : A4 l Z n0 D h 0 0 50 #[.val (.int len), .val (.int pp), .val (.int dc), .val (.int w_), .val (.int d_), .val (.int p_), .val (.long n_), .second] [(.int (w_ + p_))] := Own.iadd r d4_49
              replace r : A4 l Z n0 D h 0 0 52 #[.val (.int len), .val (.int pp), .val (.int dc), .val (.int w_), .val (.int d_), .val (.int p_), .val (.long n_), .second] [(.int (18 : Int32)), (.int (w_ + p_))] := Own.bipush r d4_50 rfl
              by_cases br7 : (18 : Int32) < (w_ + p_)
              · skip
                replace r : A4 l Z n0 D h 0 0 55 #[.val (.int len), .val (.int pp), .val (.int dc), .val (.int w_), .val (.int d_), .val (.int p_), .val (.long n_), .second] [] := Own.icmpNo r d4_52 (tlt br7).2.2.2
                replace r : A4 l Z n0 D h 0 0 58 #[.val (.int len), .val (.int pp), .val (.int dc), .val (.int w_), .val (.int d_), .val (.int p_), .val (.long n_), .second] [(.long (-1 : Int64))] := Own.ldcJ r d4_55 (hw _ (List.mem_of_getElem? (i := 38) rfl))
                exact ⟨_, _, (Own.Rch.retJ r d4_58).more (by decide) (by decide), K, _, rfl, ⟨fun q => absurd q br1, fun _ => ⟨fun q => absurd q br2, fun _ => ⟨fun q => absurd q br3, fun _ => ⟨fun _ => ⟨fun q => absurd q br5, fun _ => ⟨fun q => absurd q br6, fun _ => ⟨fun _ => rfl, fun q => absurd br7 q⟩⟩⟩, fun q => absurd br4 q⟩⟩⟩⟩⟩
              · skip
                replace r : A4 l Z n0 D h 0 0 59 #[.val (.int len), .val (.int pp), .val (.int dc), .val (.int w_), .val (.int d_), .val (.int p_), .val (.long n_), .second] [] := Own.icmpYes r d4_52 (flt br7).2.2.2 (by decide) (by decide)
                replace r : A4 l Z n0 D h 0 0 61 #[.val (.int len), .val (.int pp), .val (.int dc), .val (.int w_), .val (.int d_), .val (.int p_), .val (.long n_), .second] [(.long n_)] := Own.lload r d4_59 rfl
                replace r : A4 l Z n0 D h 0 0 62 #[.val (.int len), .val (.int pp), .val (.int dc), .val (.int w_), .val (.int d_), .val (.int p_), .val (.long n_), .second] [(.int dc), (.long n_)] := Own.iloadN r d4_61 rfl
                obtain ⟨rv8, h9, hQ10, r⟩ := Own.callS [(.int dc)] r d4_62 (c2 l Z a0 hw n0 h Zs dc (own_e1 hE (by assumption) (by assumption) (by assumption) (by assumption) (by assumption)).1 (own_e1 hE (by assumption) (by assumption) (by assumption) (by assumption) (by assumption)).2) (hw _ (List.mem_of_getElem? (i := 7) rfl)) (hw _ (List.mem_of_getElem? (i := 8) rfl)) (hw _ (List.mem_of_getElem? (i := 5) rfl)) (hw _ (List.mem_of_getElem? (i := 9) rfl)) (lenOf pd_4_0 rfl) rfl rfl (W := 2) (Nat.le_of_eq rfl) rfl (by decide) (by decide) (by decide) (by decide) (by decide)
                obtain ⟨K11, y12, rfl, e_y12⟩ := hQ10
                replace Zs := Nat.le_trans Zs K11.1
                replace K := K.trans K11 (by simp)
                replace e_y12 : y12 = (own_p10 dc) := e_y12
                subst e_y12
                replace r : A4 l Z n0 D h9 1 19 65 #[.val (.int len), .val (.int pp), .val (.int dc), .val (.int w_), .val (.int d_), .val (.int p_), .val (.long n_), .second] [(.long (own_p10 dc)), (.long n_)] := r
                replace r : A4 l Z n0 D h9 1 19 66 #[.val (.int len), .val (.int pp), .val (.int dc), .val (.int w_), .val (.int d_), .val (.int p_), .val (.long n_), .second] [(.long (Own.lremW n_ (own_p10 dc)))] := Own.lrem r d4_65 (own_p10ne (own_e1 hE (by assumption) (by assumption) (by assumption) (by assumption) (by assumption)).1 (own_e1 hE (by assumption) (by assumption) (by assumption) (by assumption) (by assumption)).2)
                replace r : A4 l Z n0 D h9 1 19 68 #[.val (.int len), .val (.int pp), .val (.int dc), .val (.int w_), .val (.int d_), .val (.int p_), .val (.long n_), .second] [(.int p_), (.long (Own.lremW n_ (own_p10 dc)))] := Own.iload r d4_66 rfl
                replace r : A4 l Z n0 D h9 1 19 70 #[.val (.int len), .val (.int pp), .val (.int dc), .val (.int w_), .val (.int d_), .val (.int p_), .val (.long n_), .second] [(.int d_), (.int p_), (.long (Own.lremW n_ (own_p10 dc)))] := Own.iload r d4_68 rfl
                replace r : A4 l Z n0 D h9 1 19 71 #[.val (.int len), .val (.int pp), .val (.int dc), .val (.int w_), .val (.int d_), .val (.int p_), .val (.long n_), .second] [(.int (p_ - d_)), (.long (Own.lremW n_ (own_p10 dc)))] := Own.isub r d4_70
                obtain ⟨rv13, h14, hQ15, r⟩ := Own.callS [(.int (p_ - d_))] r d4_71 (c2 l Z a0 hw n0 h9 Zs (p_ - d_) (own_e2 hE (by assumption) (by assumption) (by assumption) (by assumption) (by assumption)).1 (own_e2 hE (by assumption) (by assumption) (by assumption) (by assumption) (by assumption)).2) (hw _ (List.mem_of_getElem? (i := 7) rfl)) (hw _ (List.mem_of_getElem? (i := 8) rfl)) (hw _ (List.mem_of_getElem? (i := 5) rfl)) (hw _ (List.mem_of_getElem? (i := 9) rfl)) (lenOf pd_4_0 rfl) rfl rfl (W := 2) (Nat.le_of_eq rfl) rfl (by decide) (by decide) (by decide) (by decide) (by decide)
                obtain ⟨K16, y17, rfl, e_y17⟩ := hQ15
                replace Zs := Nat.le_trans Zs K16.1
                replace K := K.trans K16 (by simp)
                replace e_y17 : y17 = (own_p10 (p_ - d_)) := e_y17
                subst e_y17
                replace r : A4 l Z n0 D h14 2 38 74 #[.val (.int len), .val (.int pp), .val (.int dc), .val (.int w_), .val (.int d_), .val (.int p_), .val (.long n_), .second] [(.long (own_p10 (p_ - d_))), (.long (Own.lremW n_ (own_p10 dc)))] := r
                replace r : A4 l Z n0 D h14 2 38 75 #[.val (.int len), .val (.int pp), .val (.int dc), .val (.int w_), .val (.int d_), .val (.int p_), .val (.long n_), .second] [(.long ((Own.lremW n_ (own_p10 dc)) * (own_p10 (p_ - d_))))] := Own.lmul r d4_74
                exact ⟨_, _, (Own.Rch.retJ r d4_75).more (by decide) (by decide), K, _, rfl, ⟨fun q => absurd q br1, fun _ => ⟨fun q => absurd q br2, fun _ => ⟨fun q => absurd q br3, fun _ => ⟨fun _ => ⟨fun q => absurd q br5, fun _ => ⟨fun q => absurd q br6, fun _ => ⟨fun q => absurd q br7, fun _ => rfl⟩⟩⟩, fun q => absurd br4 q⟩⟩⟩⟩⟩
        · skip
          replace r : A4 l Z n0 D h 0 0 35 #[.val (.int len), .val (.int pp), .val (.int dc), .val (.int w_), .val (.int d_), .val (.int p_), .val (.long n_), .second] [] := Own.ifYes r d4_23 ((if0 _ _).trans (flt br4).2.2.2) (by decide) (by decide)
          replace r : A4 l Z n0 D h 0 0 37 #[.val (.int len), .val (.int pp), .val (.int dc), .val (.int w_), .val (.int d_), .val (.int p_), .val (.long n_), .second] [(.int d_)] := Own.iload r d4_35 rfl
          replace r : A4 l Z n0 D h 0 0 39 #[.val (.int len), .val (.int pp), .val (.int dc), .val (.int w_), .val (.int d_), .val (.int p_), .val (.long n_), .second] [(.int p_), (.int d_)] := Own.iload r d4_37 rfl
          by_cases br18 : p_ < d_
          · skip
            replace r : A4 l Z n0 D h 0 0 42 #[.val (.int len), .val (.int pp), .val (.int dc), .val (.int w_), .val (.int d_), .val (.int p_), .val (.long n_), .second] [] := Own.icmpNo r d4_39 (tlt br18).2.2.2
            replace r : A4 l Z n0 D h 0 0 45 #[.val (.int len), .val (.int pp), .val (.int dc), .val (.int w_), .val (.int d_), .val (.int p_), .val (.long n_), .second] [(.long (-1 : Int64))] := Own.ldcJ r d4_42 (hw _ (List.mem_of_getElem? (i := 38) rfl))
            exact ⟨_, _, (Own.Rch.retJ r d4_45).more (by decide) (by decide), K, _, rfl, ⟨fun q => absurd q br1, fun _ => ⟨fun q => absurd q br2, fun _ => ⟨fun q => absurd q br3, fun _ => ⟨fun q => absurd q br4, fun _ => ⟨fun _ => rfl, fun q => absurd br18 q⟩⟩⟩⟩⟩⟩
          · skip
            replace r : A4 l Z n0 D h 0 0 46 #[.val (.int len), .val (.int pp), .val (.int dc), .val (.int w_), .val (.int d_), .val (.int p_), .val (.long n_), .second] [] := Own.icmpYes r d4_39 (flt br18).2.2.2 (by decide) (by decide)
            replace r : A4 l Z n0 D h 0 0 47 #[.val (.int len), .val (.int pp), .val (.int dc), .val (.int w_), .val (.int d_), .val (.int p_), .val (.long n_), .second] [(.int w_)] := Own.iloadN r d4_46 rfl
            replace r : A4 l Z n0 D h 0 0 49 #[.val (.int len), .val (.int pp), .val (.int dc), .val (.int w_), .val (.int d_), .val (.int p_), .val (.long n_), .second] [(.int p_), (.int w_)] := Own.iload r d4_47 rfl
            replace r : A4 l Z n0 D h 0 0 50 #[.val (.int len), .val (.int pp), .val (.int dc), .val (.int w_), .val (.int d_), .val (.int p_), .val (.long n_), .second] [(.int (w_ + p_))] := Own.iadd r d4_49
            replace r : A4 l Z n0 D h 0 0 52 #[.val (.int len), .val (.int pp), .val (.int dc), .val (.int w_), .val (.int d_), .val (.int p_), .val (.long n_), .second] [(.int (18 : Int32)), (.int (w_ + p_))] := Own.bipush r d4_50 rfl
            by_cases br19 : (18 : Int32) < (w_ + p_)
            · skip
              replace r : A4 l Z n0 D h 0 0 55 #[.val (.int len), .val (.int pp), .val (.int dc), .val (.int w_), .val (.int d_), .val (.int p_), .val (.long n_), .second] [] := Own.icmpNo r d4_52 (tlt br19).2.2.2
              replace r : A4 l Z n0 D h 0 0 58 #[.val (.int len), .val (.int pp), .val (.int dc), .val (.int w_), .val (.int d_), .val (.int p_), .val (.long n_), .second] [(.long (-1 : Int64))] := Own.ldcJ r d4_55 (hw _ (List.mem_of_getElem? (i := 38) rfl))
              exact ⟨_, _, (Own.Rch.retJ r d4_58).more (by decide) (by decide), K, _, rfl, ⟨fun q => absurd q br1, fun _ => ⟨fun q => absurd q br2, fun _ => ⟨fun q => absurd q br3, fun _ => ⟨fun q => absurd q br4, fun _ => ⟨fun q => absurd q br18, fun _ => ⟨fun _ => rfl, fun q => absurd br19 q⟩⟩⟩⟩⟩⟩⟩
            · skip
              replace r : A4 l Z n0 D h 0 0 59 #[.val (.int len), .val (.int pp), .val (.int dc), .val (.int w_), .val (.int d_), .val (.int p_), .val (.long n_), .second] [] := Own.icmpYes r d4_52 (flt br19).2.2.2 (by decide) (by decide)
              replace r : A4 l Z n0 D h 0 0 61 #[.val (.int len), .val (.int pp), .val (.int dc), .val (.int w_), .val (.int d_), .val (.int p_), .val (.long n_), .second] [(.long n_)] := Own.lload r d4_59 rfl
              replace r : A4 l Z n0 D h 0 0 62 #[.val (.int len), .val (.int pp), .val (.int dc), .val (.int w_), .val (.int d_), .val (.int p_), .val (.long n_), .second] [(.int dc), (.long n_)] := Own.iloadN r d4_61 rfl
              obtain ⟨rv20, h21, hQ22, r⟩ := Own.callS [(.int dc)] r d4_62 (c2 l Z a0 hw n0 h Zs dc (own_e1 hE (by assumption) (by assumption) (by assumption) (by assumption) (by assumption)).1 (own_e1 hE (by assumption) (by assumption) (by assumption) (by assumption) (by assumption)).2) (hw _ (List.mem_of_getElem? (i := 7) rfl)) (hw _ (List.mem_of_getElem? (i := 8) rfl)) (hw _ (List.mem_of_getElem? (i := 5) rfl)) (hw _ (List.mem_of_getElem? (i := 9) rfl)) (lenOf pd_4_0 rfl) rfl rfl (W := 2) (Nat.le_of_eq rfl) rfl (by decide) (by decide) (by decide) (by decide) (by decide)
              obtain ⟨K23, y24, rfl, e_y24⟩ := hQ22
              replace Zs := Nat.le_trans Zs K23.1
              replace K := K.trans K23 (by simp)
              replace e_y24 : y24 = (own_p10 dc) := e_y24
              subst e_y24
              replace r : A4 l Z n0 D h21 1 19 65 #[.val (.int len), .val (.int pp), .val (.int dc), .val (.int w_), .val (.int d_), .val (.int p_), .val (.long n_), .second] [(.long (own_p10 dc)), (.long n_)] := r
              replace r : A4 l Z n0 D h21 1 19 66 #[.val (.int len), .val (.int pp), .val (.int dc), .val (.int w_), .val (.int d_), .val (.int p_), .val (.long n_), .second] [(.long (Own.lremW n_ (own_p10 dc)))] := Own.lrem r d4_65 (own_p10ne (own_e1 hE (by assumption) (by assumption) (by assumption) (by assumption) (by assumption)).1 (own_e1 hE (by assumption) (by assumption) (by assumption) (by assumption) (by assumption)).2)
              replace r : A4 l Z n0 D h21 1 19 68 #[.val (.int len), .val (.int pp), .val (.int dc), .val (.int w_), .val (.int d_), .val (.int p_), .val (.long n_), .second] [(.int p_), (.long (Own.lremW n_ (own_p10 dc)))] := Own.iload r d4_66 rfl
              replace r : A4 l Z n0 D h21 1 19 70 #[.val (.int len), .val (.int pp), .val (.int dc), .val (.int w_), .val (.int d_), .val (.int p_), .val (.long n_), .second] [(.int d_), (.int p_), (.long (Own.lremW n_ (own_p10 dc)))] := Own.iload r d4_68 rfl
              replace r : A4 l Z n0 D h21 1 19 71 #[.val (.int len), .val (.int pp), .val (.int dc), .val (.int w_), .val (.int d_), .val (.int p_), .val (.long n_), .second] [(.int (p_ - d_)), (.long (Own.lremW n_ (own_p10 dc)))] := Own.isub r d4_70
              obtain ⟨rv25, h26, hQ27, r⟩ := Own.callS [(.int (p_ - d_))] r d4_71 (c2 l Z a0 hw n0 h21 Zs (p_ - d_) (own_e2 hE (by assumption) (by assumption) (by assumption) (by assumption) (by assumption)).1 (own_e2 hE (by assumption) (by assumption) (by assumption) (by assumption) (by assumption)).2) (hw _ (List.mem_of_getElem? (i := 7) rfl)) (hw _ (List.mem_of_getElem? (i := 8) rfl)) (hw _ (List.mem_of_getElem? (i := 5) rfl)) (hw _ (List.mem_of_getElem? (i := 9) rfl)) (lenOf pd_4_0 rfl) rfl rfl (W := 2) (Nat.le_of_eq rfl) rfl (by decide) (by decide) (by decide) (by decide) (by decide)
              obtain ⟨K28, y29, rfl, e_y29⟩ := hQ27
              replace Zs := Nat.le_trans Zs K28.1
              replace K := K.trans K28 (by simp)
              replace e_y29 : y29 = (own_p10 (p_ - d_)) := e_y29
              subst e_y29
              replace r : A4 l Z n0 D h26 2 38 74 #[.val (.int len), .val (.int pp), .val (.int dc), .val (.int w_), .val (.int d_), .val (.int p_), .val (.long n_), .second] [(.long (own_p10 (p_ - d_))), (.long (Own.lremW n_ (own_p10 dc)))] := r
              replace r : A4 l Z n0 D h26 2 38 75 #[.val (.int len), .val (.int pp), .val (.int dc), .val (.int w_), .val (.int d_), .val (.int p_), .val (.long n_), .second] [(.long ((Own.lremW n_ (own_p10 dc)) * (own_p10 (p_ - d_))))] := Own.lmul r d4_74
              exact ⟨_, _, (Own.Rch.retJ r d4_75).more (by decide) (by decide), K, _, rfl, ⟨fun q => absurd q br1, fun _ => ⟨fun q => absurd q br2, fun _ => ⟨fun q => absurd q br3, fun _ => ⟨fun q => absurd q br4, fun _ => ⟨fun q => absurd q br18, fun _ => ⟨fun q => absurd q br19, fun _ => rfl⟩⟩⟩⟩⟩⟩⟩
theorem d3_0 : decode prog_15_method_7_code 0 = .ok (.iload_n 2, 1) := by decide +kernel
theorem d3_1 : decode prog_15_method_7_code 1 = .ok (.iload_n 1, 1) := by decide +kernel
theorem d3_2 : decode prog_15_method_7_code 2 = .ok (.isub, 1) := by decide +kernel
theorem d3_3 : decode prog_15_method_7_code 3 = .ok (.istore 4, 2) := by decide +kernel
theorem d3_5 : decode prog_15_method_7_code 5 = .ok (.iload 4, 2) := by decide +kernel
theorem d3_7 : decode prog_15_method_7_code 7 = .ok (.ifCond .eq 10, 3) := by decide +kernel
theorem d3_10 : decode prog_15_method_7_code 10 = .ok (.iload 4, 2) := by decide +kernel
theorem d3_12 : decode prog_15_method_7_code 12 = .ok (.bipush 19, 2) := by decide +kernel
theorem d3_14 : decode prog_15_method_7_code 14 = .ok (.if_icmp .le 7, 3) := by decide +kernel
theorem d3_17 : decode prog_15_method_7_code 17 = .ok (.ldc2_w 107, 3) := by decide +kernel
theorem d3_20 : decode prog_15_method_7_code 20 = .ok (.lreturn, 1) := by decide +kernel
theorem d3_21 : decode prog_15_method_7_code 21 = .ok (.iconst (-1), 1) := by decide +kernel
theorem d3_22 : decode prog_15_method_7_code 22 = .ok (.istore 5, 2) := by decide +kernel
theorem d3_24 : decode prog_15_method_7_code 24 = .ok (.lconst 0, 1) := by decide +kernel
theorem d3_25 : decode prog_15_method_7_code 25 = .ok (.lstore 6, 2) := by decide +kernel
theorem d3_27 : decode prog_15_method_7_code 27 = .ok (.iload_n 1, 1) := by decide +kernel
theorem d3_28 : decode prog_15_method_7_code 28 = .ok (.istore 8, 2) := by decide +kernel
theorem d3_30 : decode prog_15_method_7_code 30 = .ok (.iload 8, 2) := by decide +kernel
theorem d3_32 : decode prog_15_method_7_code 32 = .ok (.iload_n 2, 1) := by decide +kernel
theorem d3_33 : decode prog_15_method_7_code 33 = .ok (.if_icmp .ge 76, 3) := by decide +kernel
theorem d3_36 : decode prog_15_method_7_code 36 = .ok (.aload_n 0, 1) := by decide +kernel
theorem d3_37 : decode prog_15_method_7_code 37 = .ok (.iload 8, 2) := by decide +kernel
theorem d3_39 : decode prog_15_method_7_code 39 = .ok (.baload, 1) := by decide +kernel
theorem d3_40 : decode prog_15_method_7_code 40 = .ok (.istore 9, 2) := by decide +kernel
theorem d3_42 : decode prog_15_method_7_code 42 = .ok (.iload 9, 2) := by decide +kernel
theorem d3_44 : decode prog_15_method_7_code 44 = .ok (.bipush 46, 2) := by decide +kernel
theorem d3_46 : decode prog_15_method_7_code 46 = .ok (.if_icmp .ne 21, 3) := by decide +kernel
theorem d3_49 : decode prog_15_method_7_code 49 = .ok (.iload 5, 2) := by decide +kernel
theorem d3_51 : decode prog_15_method_7_code 51 = .ok (.ifCond .ge 16, 3) := by decide +kernel
theorem d3_54 : decode prog_15_method_7_code 54 = .ok (.iload 8, 2) := by decide +kernel
theorem d3_56 : decode prog_15_method_7_code 56 = .ok (.iload_n 1, 1) := by decide +kernel
theorem d3_57 : decode prog_15_method_7_code 57 = .ok (.if_icmp .le 10, 3) := by decide +kernel
theorem d3_60 : decode prog_15_method_7_code 60 = .ok (.iload 8, 2) := by decide +kernel
theorem d3_62 : decode prog_15_method_7_code 62 = .ok (.istore 5, 2) := by decide +kernel
theorem d3_64 : decode prog_15_method_7_code 64 = .ok (.goto 39, 3) := by decide +kernel
theorem d3_67 : decode prog_15_method_7_code 67 = .ok (.iload 9, 2) := by decide +kernel
theorem d3_69 : decode prog_15_method_7_code 69 = .ok (.bipush 48, 2) := by decide +kernel
theorem d3_71 : decode prog_15_method_7_code 71 = .ok (.if_icmp .lt 28, 3) := by decide +kernel
theorem d3_74 : decode prog_15_method_7_code 74 = .ok (.iload 9, 2) := by decide +kernel
theorem d3_76 : decode prog_15_method_7_code 76 = .ok (.bipush 57, 2) := by decide +kernel
theorem d3_78 : decode prog_15_method_7_code 78 = .ok (.if_icmp .gt 21, 3) := by decide +kernel
theorem d3_81 : decode prog_15_method_7_code 81 = .ok (.lload 6, 2) := by decide +kernel
theorem d3_83 : decode prog_15_method_7_code 83 = .ok (.ldc2_w 109, 3) := by decide +kernel
theorem d3_86 : decode prog_15_method_7_code 86 = .ok (.lmul, 1) := by decide +kernel
theorem d3_87 : decode prog_15_method_7_code 87 = .ok (.iload 9, 2) := by decide +kernel
theorem d3_89 : decode prog_15_method_7_code 89 = .ok (.bipush 48, 2) := by decide +kernel
theorem d3_91 : decode prog_15_method_7_code 91 = .ok (.isub, 1) := by decide +kernel
theorem d3_92 : decode prog_15_method_7_code 92 = .ok (.i2l, 1) := by decide +kernel
theorem d3_93 : decode prog_15_method_7_code 93 = .ok (.ladd, 1) := by decide +kernel
theorem d3_94 : decode prog_15_method_7_code 94 = .ok (.lstore 6, 2) := by decide +kernel
theorem d3_96 : decode prog_15_method_7_code 96 = .ok (.goto 7, 3) := by decide +kernel
theorem d3_99 : decode prog_15_method_7_code 99 = .ok (.ldc2_w 107, 3) := by decide +kernel
theorem d3_102 : decode prog_15_method_7_code 102 = .ok (.lreturn, 1) := by decide +kernel
theorem d3_103 : decode prog_15_method_7_code 103 = .ok (.iinc 8 1, 3) := by decide +kernel
theorem d3_106 : decode prog_15_method_7_code 106 = .ok (.goto (-76), 3) := by decide +kernel
theorem d3_109 : decode prog_15_method_7_code 109 = .ok (.iload 5, 2) := by decide +kernel
theorem d3_111 : decode prog_15_method_7_code 111 = .ok (.ifCond .ge 8, 3) := by decide +kernel
theorem d3_114 : decode prog_15_method_7_code 114 = .ok (.iload 4, 2) := by decide +kernel
theorem d3_116 : decode prog_15_method_7_code 116 = .ok (.goto 7, 3) := by decide +kernel
theorem d3_119 : decode prog_15_method_7_code 119 = .ok (.iload 5, 2) := by decide +kernel
theorem d3_121 : decode prog_15_method_7_code 121 = .ok (.iload_n 1, 1) := by decide +kernel
theorem d3_122 : decode prog_15_method_7_code 122 = .ok (.isub, 1) := by decide +kernel
theorem d3_123 : decode prog_15_method_7_code 123 = .ok (.istore 8, 2) := by decide +kernel
theorem d3_125 : decode prog_15_method_7_code 125 = .ok (.iload 5, 2) := by decide +kernel
theorem d3_127 : decode prog_15_method_7_code 127 = .ok (.ifCond .ge 7, 3) := by decide +kernel
theorem d3_130 : decode prog_15_method_7_code 130 = .ok (.iconst 0, 1) := by decide +kernel
theorem d3_131 : decode prog_15_method_7_code 131 = .ok (.goto 9, 3) := by decide +kernel
theorem d3_134 : decode prog_15_method_7_code 134 = .ok (.iload_n 2, 1) := by decide +kernel
theorem d3_135 : decode prog_15_method_7_code 135 = .ok (.iload 5, 2) := by decide +kernel
theorem d3_137 : decode prog_15_method_7_code 137 = .ok (.isub, 1) := by decide +kernel
theorem d3_138 : decode prog_15_method_7_code 138 = .ok (.iconst 1, 1) := by decide +kernel
theorem d3_139 : decode prog_15_method_7_code 139 = .ok (.isub, 1) := by decide +kernel
theorem d3_140 : decode prog_15_method_7_code 140 = .ok (.istore 9, 2) := by decide +kernel
theorem d3_142 : decode prog_15_method_7_code 142 = .ok (.iload 5, 2) := by decide +kernel
theorem d3_144 : decode prog_15_method_7_code 144 = .ok (.ifCond .lt 8, 3) := by decide +kernel
theorem d3_147 : decode prog_15_method_7_code 147 = .ok (.iload 9, 2) := by decide +kernel
theorem d3_149 : decode prog_15_method_7_code 149 = .ok (.ifCond .eq 18, 3) := by decide +kernel
theorem d3_152 : decode prog_15_method_7_code 152 = .ok (.iload 9, 2) := by decide +kernel
theorem d3_154 : decode prog_15_method_7_code 154 = .ok (.iload_n 3, 1) := by decide +kernel
theorem d3_155 : decode prog_15_method_7_code 155 = .ok (.if_icmp .gt 12, 3) := by decide +kernel
theorem d3_158 : decode prog_15_method_7_code 158 = .ok (.iload 8, 2) := by decide +kernel
theorem d3_160 : decode prog_15_method_7_code 160 = .ok (.iload_n 3, 1) := by decide +kernel
theorem d3_161 : decode prog_15_method_7_code 161 = .ok (.iadd, 1) := by decide +kernel
theorem d3_162 : decode prog_15_method_7_code 162 = .ok (.bipush 18, 2) := by decide +kernel
theorem d3_164 : decode prog_15_method_7_code 164 = .ok (.if_icmp .le 7, 3) := by decide +kernel
theorem d3_167 : decode prog_15_method_7_code 167 = .ok (.ldc2_w 107, 3) := by decide +kernel
theorem d3_170 : decode prog_15_method_7_code 170 = .ok (.lreturn, 1) := by decide +kernel
theorem d3_171 : decode prog_15_method_7_code 171 = .ok (.iload 9, 2) := by decide +kernel
theorem d3_173 : decode prog_15_method_7_code 173 = .ok (.istore 10, 2) := by decide +kernel
theorem d3_175 : decode prog_15_method_7_code 175 = .ok (.iload 10, 2) := by decide +kernel
theorem d3_177 : decode prog_15_method_7_code 177 = .ok (.iload_n 3, 1) := by decide +kernel
theorem d3_178 : decode prog_15_method_7_code 178 = .ok (.if_icmp .ge 17, 3) := by decide +kernel
theorem d3_181 : decode prog_15_method_7_code 181 = .ok (.lload 6, 2) := by decide +kernel
theorem d3_183 : decode prog_15_method_7_code 183 = .ok (.ldc2_w 109, 3) := by decide +kernel
theorem d3_186 : decode prog_15_method_7_code 186 = .ok (.lmul, 1) := by decide +kernel
theorem d3_187 : decode prog_15_method_7_code 187 = .ok (.lstore 6, 2) := by decide +kernel
theorem d3_189 : decode prog_15_method_7_code 189 = .ok (.iinc 10 1, 3) := by decide +kernel
theorem d3_192 : decode prog_15_method_7_code 192 = .ok (.goto (-17), 3) := by decide +kernel
theorem d3_195 : decode prog_15_method_7_code 195 = .ok (.lload 6, 2) := by decide +kernel
theorem d3_197 : decode prog_15_method_7_code 197 = .ok (.lreturn, 1) := by decide +kernel
theorem pn_3 : plainFor (⟨"com/example/debit/debit/csv/DecimalText", "scaled", "([BIII)J"⟩ : MethodName) = true := plainFor_of_name (by first | (simp [plainName, overriddenIn, x]; done) | decide +kernel)
theorem ef_3 (a0_ : Addr) (p1 : Int32) (p2 : Int32) (p3 : Int32) (m : MethodId) : entryFrame m #[(.ref a0_), (.int p1), (.int p2), (.int p3)] 11 = mkF m 0 #[.val (.ref a0_), .val (.int p1), .val (.int p2), .val (.int p3), .unset, .unset, .unset, .unset, .unset, .unset, .unset] [] := by first | (simp [entryFrame, mkF, argsToLocals, Value.category, maxLocals]; done) | rfl
abbrev R3 : Room := ({ frames := 0, cells := 0, slots := 0, locals := 0 } : Room)
abbrev A3 (l : Launch) (Z : State) (n0 : Nat) (D : Own.Dyn) := Own.Rch l Z n0 R3 (⟨"com/example/debit/debit/csv/DecimalText", "scaled", "([BIII)J"⟩ : MethodName) prog_15_method_7_code 11 (some .long) D
set_option maxRecDepth 65536 in
set_option maxHeartbeats 40000000 in
theorem w3_0 (l : Launch) (Z : State) (a0 : Array Value) (hw : ∀ d ∈ tables_1, d.before a0 Z = true) (n0 : Nat) (h : Heap) (Zs : n0 ≤ h.size) (D : Own.Dyn) (a0_ : Addr) (p1 : Int32) (p2 : Int32) (p3 : Int32) (L : List Int32) (V_a0_ : Own.VA Z h a0_ .byte (L.map Value.int)) (hL : L.length = 22) (hs : 0 ≤ p1.toInt) (he : p2.toInt ≤ 22)  (P : Int64 → Prop) (N30 : Int32 → Int32 → Int64 → Int32 → Prop) (h30 : ∀ (x4 : Int32) (x5 : Int32) (x6 : Int64) (x8 : Int32) (sl9 : Slot), (sl9 = .unset ∨ ∃ w, sl9 = .val w ∧ w.category = 1) → N30 x4 x5 x6 x8 → A3 l Z n0 D h 0 0 30 #[.val (.ref a0_), .val (.int p1), .val (.int p2), .val (.int p3), .val (.int x4), .val (.int x5), .val (.long x6), .second, .val (.int x8), sl9, .unset] [] → ∃ v h', Own.Don l Z n0 R3 D h' R3.cells R3.slots v ∧ h = h' ∧ ∃ w : Int64, v = some (.long w) ∧ P w) (H : ∀ v4_1 : Int32, v4_1 = (p2 - p1) → ((v4_1 = (0 : Int32) → P (-1 : Int64)) ∧ (¬ (v4_1 = (0 : Int32)) → (((19 : Int32) < v4_1 → P (-1 : Int64)) ∧ (¬ ((19 : Int32) < v4_1) → N30 v4_1 (-1 : Int32) (0 : Int64) p1))))) (r : A3 l Z n0 D h 0 0 0 #[.val (.ref a0_), .val (.int p1), .val (.int p2), .val (.int p3), .unset, .unset, .unset, .unset, .unset, .unset, .unset] []) :
    ∃ v h', Own.Don l Z n0 R3 D h' R3.cells R3.slots v ∧ h = h' ∧ ∃ w : Int64, v = some (.long w) ∧ P w := by
  replace r : A3 l Z n0 D h 0 0 1 #[.val (.ref a0_), .val (.int p1), .val (.int p2), .val (.int p3), .unset, .unset, .unset, .unset, .unset, .unset, .unset] [(.int p2)] := Own.iloadN r d3_0 rfl
  replace r : A3 l Z n0 D h 0 0 2 #[.val (.ref a0_), .val (.int p1), .val (.int p2), .val (.int p3), .unset, .unset, .unset, .unset, .unset, .unset, .unset] [(.int p1), (.int p2)] := Own.iloadN r d3_1 rfl
  replace r : A3 l Z n0 D h 0 0 3 #[.val (.ref a0_), .val (.int p1), .val (.int p2), .val (.int p3), .unset, .unset, .unset, .unset, .unset, .unset, .unset] [(.int (p2 - p1))] := Own.isub r d3_2
  obtain ⟨v4_1, e_v4_1⟩ : ∃ z : Int32, z = (p2 - p1) := ⟨_, rfl⟩
  replace r : A3 l Z n0 D h 0 0 3 #[.val (.ref a0_), .val (.int p1), .val (.int p2), .val (.int p3), .unset, .unset, .unset, .unset, .unset, .unset, .unset] [(.int v4_1)] := by rw [e_v4_1]; exact r
  replace H := H _ e_v4_1
  replace r : A3 l Z n0 D h 0 0 5 #[.val (.ref a0_), .val (.int p1), .val (.int p2), .val (.int p3), .val (.int v4_1), .unset, .unset, .unset, .unset, .unset, .unset] [] := Own.istore r d3_3 rfl
  replace r : A3 l Z n0 D h 0 0 7 #[.val (.ref a0_), .val (.int p1), .val (.int p2), .val (.int p3), .val (.int v4_1), .unset, .unset, .unset, .unset, .unset, .unset] [(.int v4_1)] := Own.iload r d3_5 rfl
  by_cases br2 : v4_1 = (0 : Int32)
  · replace H := H.1 br2
    replace r : A3 l Z n0 D h 0 0 17 #[.val (.ref a0_), .val (.int p1), .val (.int p2), .val (.int p3), .val (.int v4_1), .unset, .unset, .unset, .unset, .unset, .unset] [] := Own.ifYes r d3_7 ((if0 _ _).trans (teq br2).1) (by decide) (by decide)
    replace r : A3 l Z n0 D h 0 0 20 #[.val (.ref a0_), .val (.int p1), .val (.int p2), .val (.int p3), .val (.int v4_1), .unset, .unset, .unset, .unset, .unset, .unset] [(.long (-1 : Int64))] := Own.ldcJ r d3_17 (hw _ (List.mem_of_getElem? (i := 34) rfl))
    exact ⟨_, _, (Own.Rch.retJ r d3_20).more (by decide) (by decide), rfl, _, rfl, H⟩
  · replace H := H.2 br2
    replace r : A3 l Z n0 D h 0 0 10 #[.val (.ref a0_), .val (.int p1), .val (.int p2), .val (.int p3), .val (.int v4_1), .unset, .unset, .unset, .unset, .unset, .unset] [] := Own.ifNo r d3_7 ((if0 _ _).trans (feq br2).1)
    replace r : A3 l Z n0 D h 0 0 12 #[.val (.ref a0_), .val (.int p1), .val (.int p2), .val (.int p3), .val (.int v4_1), .unset, .unset, .unset, .unset, .unset, .unset] [(.int v4_1)] := Own.iload r d3_10 rfl
    replace r : A3 l Z n0 D h 0 0 14 #[.val (.ref a0_), .val (.int p1), .val (.int p2), .val (.int p3), .val (.int v4_1), .unset, .unset, .unset, .unset, .unset, .unset] [(.int (19 : Int32)), (.int v4_1)] := Own.bipush r d3_12 rfl
    by_cases br3 : (19 : Int32) < v4_1
    · replace H := H.1 br3
      replace r : A3 l Z n0 D h 0 0 17 #[.val (.ref a0_), .val (.int p1), .val (.int p2), .val (.int p3), .val (.int v4_1), .unset, .unset, .unset, .unset, .unset, .unset] [] := Own.icmpNo r d3_14 (tlt br3).2.2.2
      replace r : A3 l Z n0 D h 0 0 20 #[.val (.ref a0_), .val (.int p1), .val (.int p2), .val (.int p3), .val (.int v4_1), .unset, .unset, .unset, .unset, .unset, .unset] [(.long (-1 : Int64))] := Own.ldcJ r d3_17 (hw _ (List.mem_of_getElem? (i := 34) rfl))
      exact ⟨_, _, (Own.Rch.retJ r d3_20).more (by decide) (by decide), rfl, _, rfl, H⟩
    · replace H := H.2 br3
      replace r : A3 l Z n0 D h 0 0 21 #[.val (.ref a0_), .val (.int p1), .val (.int p2), .val (.int p3), .val (.int v4_1), .unset, .unset, .unset, .unset, .unset, .unset] [] := Own.icmpYes r d3_14 (flt br3).2.2.2 (by decide) (by decide)
      replace r : A3 l Z n0 D h 0 0 22 #[.val (.ref a0_), .val (.int p1), .val (.int p2), .val (.int p3), .val (.int v4_1), .unset, .unset, .unset, .unset, .unset, .unset] [(.int (-1 : Int32))] := Own.iconst r d3_21 rfl
      replace r : A3 l Z n0 D h 0 0 24 #[.val (.ref a0_), .val (.int p1), .val (.int p2), .val (.int p3), .val (.int v4_1), .val (.int (-1 : Int32)), .unset, .unset, .unset, .unset, .unset] [] := Own.istore r d3_22 rfl
      replace r : A3 l Z n0 D h 0 0 25 #[.val (.ref a0_), .val (.int p1), .val (.int p2), .val (.int p3), .val (.int v4_1), .val (.int (-1 : Int32)), .unset, .unset, .unset, .unset, .unset] [(.long (0 : Int64))] := Own.lconst r d3_24 rfl
      replace r : A3 l Z n0 D h 0 0 27 #[.val (.ref a0_), .val (.int p1), .val (.int p2), .val (.int p3), .val (.int v4_1), .val (.int (-1 : Int32)), .val (.long (0 : Int64)), .second, .unset, .unset, .unset] [] := Own.lstore r d3_25 rfl
      replace r : A3 l Z n0 D h 0 0 28 #[.val (.ref a0_), .val (.int p1), .val (.int p2), .val (.int p3), .val (.int v4_1), .val (.int (-1 : Int32)), .val (.long (0 : Int64)), .second, .unset, .unset, .unset] [(.int p1)] := Own.iloadN r d3_27 rfl
      replace r : A3 l Z n0 D h 0 0 30 #[.val (.ref a0_), .val (.int p1), .val (.int p2), .val (.int p3), .val (.int v4_1), .val (.int (-1 : Int32)), .val (.long (0 : Int64)), .second, .val (.int p1), .unset, .unset] [] := Own.istore r d3_28 rfl
      exact h30 v4_1 (-1 : Int32) (0 : Int64) p1 (.unset) (Or.inl rfl) H r
set_option maxRecDepth 65536 in
set_option maxHeartbeats 40000000 in
theorem w3_30 (l : Launch) (Z : State) (a0 : Array Value) (hw : ∀ d ∈ tables_1, d.before a0 Z = true) (n0 : Nat) (h : Heap) (Zs : n0 ≤ h.size) (D : Own.Dyn) (a0_ : Addr) (p1 : Int32) (p2 : Int32) (p3 : Int32) (L : List Int32) (V_a0_ : Own.VA Z h a0_ .byte (L.map Value.int)) (hL : L.length = 22) (hs : 0 ≤ p1.toInt) (he : p2.toInt ≤ 22) (x4 : Int32) (x5 : Int32) (x6 : Int64) (x8 : Int32) (sl9 : Slot) (o_sl9 : (sl9 = .unset ∨ ∃ w, sl9 = .val w ∧ w.category = 1)) (hx : 0 ≤ x8.toInt) (P : Int64 → Prop) (N30 : Int32 → Int32 → Int64 → Int32 → Prop) (N109 : Int32 → Int32 → Int64 → Int32 → Prop) (h30 : ∀ (x4 : Int32) (x5 : Int32) (x6 : Int64) (x8 : Int32) (sl9 : Slot), (sl9 = .unset ∨ ∃ w, sl9 = .val w ∧ w.category = 1) → N30 x4 x5 x6 x8 → A3 l Z n0 D h 0 0 30 #[.val (.ref a0_), .val (.int p1), .val (.int p2), .val (.int p3), .val (.int x4), .val (.int x5), .val (.long x6), .second, .val (.int x8), sl9, .unset] [] → ∃ v h', Own.Don l Z n0 R3 D h' R3.cells R3.slots v ∧ h = h' ∧ ∃ w : Int64, v = some (.long w) ∧ P w) (h109 : ∀ (x4 : Int32) (x5 : Int32) (x6 : Int64) (x8 : Int32) (sl9 : Slot), (sl9 = .unset ∨ ∃ w, sl9 = .val w ∧ w.category = 1) → N109 x4 x5 x6 x8 → A3 l Z n0 D h 0 0 109 #[.val (.ref a0_), .val (.int p1), .val (.int p2), .val (.int p3), .val (.int x4), .val (.int x5), .val (.long x6), .second, .val (.int x8), sl9, .unset] [] → ∃ v h', Own.Don l Z n0 R3 D h' R3.cells R3.slots v ∧ h = h' ∧ ∃ w : Int64, v = some (.long w) ∧ P w) (H : ((x8 < p2 → ∀ v9_2 : Int32, v9_2 = (Own.ga L x8) → ((v9_2 = (46 : Int32) → ((x5 < (0 : Int32) → ((p1 < x8 → N30 x4 x8 x6 (x8 + (1 : Int32))) ∧ (¬ (p1 < x8) → ((v9_2 < (48 : Int32) → P (-1 : Int64)) ∧ (¬ (v9_2 < (48 : Int32)) → (((57 : Int32) < v9_2 → P (-1 : Int64)) ∧ (¬ ((57 : Int32) < v9_2) → ∀ v6_8 : Int64, v6_8 = ((x6 * (10 : Int64)) + (v9_2 - (48 : Int32)).toInt64) → N30 x4 x5 v6_8 (x8 + (1 : Int32))))))))) ∧ (¬ (x5 < (0 : Int32)) → ((v9_2 < (48 : Int32) → P (-1 : Int64)) ∧ (¬ (v9_2 < (48 : Int32)) → (((57 : Int32) < v9_2 → P (-1 : Int64)) ∧ (¬ ((57 : Int32) < v9_2) → ∀ v6_11 : Int64, v6_11 = ((x6 * (10 : Int64)) + (v9_2 - (48 : Int32)).toInt64) → N30 x4 x5 v6_11 (x8 + (1 : Int32))))))))) ∧ (¬ (v9_2 = (46 : Int32)) → ((v9_2 < (48 : Int32) → P (-1 : Int64)) ∧ (¬ (v9_2 < (48 : Int32)) → (((57 : Int32) < v9_2 → P (-1 : Int64)) ∧ (¬ ((57 : Int32) < v9_2) → ∀ v6_14 : Int64, v6_14 = ((x6 * (10 : Int64)) + (v9_2 - (48 : Int32)).toInt64) → N30 x4 x5 v6_14 (x8 + (1 : Int32))))))))) ∧ (¬ (x8 < p2) → N109 x4 x5 x6 x8))) (r : A3 l Z n0 D h 0 0 30 #[.val (.ref a0_), .val (.int p1), .val (.int p2), .val (.int p3), .val (.int x4), .val (.int x5), .val (.long x6), .second, .val (.int x8), sl9, .unset] []) :
    ∃ v h', Own.Don l Z n0 R3 D h' R3.cells R3.slots v ∧ h = h' ∧ ∃ w : Int64, v = some (.long w) ∧ P w := by
  replace r : A3 l Z n0 D h 0 0 32 #[.val (.ref a0_), .val (.int p1), .val (.int p2), .val (.int p3), .val (.int x4), .val (.int x5), .val (.long x6), .second, .val (.int x8), sl9, .unset] [(.int x8)] := Own.iload r d3_30 rfl
  replace r : A3 l Z n0 D h 0 0 33 #[.val (.ref a0_), .val (.int p1), .val (.int p2), .val (.int p3), .val (.int x4), .val (.int x5), .val (.long x6), .second, .val (.int x8), sl9, .unset] [(.int p2), (.int x8)] := Own.iloadN r d3_32 rfl
  by_cases br1 : x8 < p2
  · replace H := H.1 br1
    replace r : A3 l Z n0 D h 0 0 36 #[.val (.ref a0_), .val (.int p1), .val (.int p2), .val (.int p3), .val (.int x4), .val (.int x5), .val (.long x6), .second, .val (.int x8), sl9, .unset] [] := Own.icmpNo r d3_33 (tlt br1).2.1
    replace r : A3 l Z n0 D h 0 0 37 #[.val (.ref a0_), .val (.int p1), .val (.int p2), .val (.int p3), .val (.int x4), .val (.int x5), .val (.long x6), .second, .val (.int x8), sl9, .unset] [(.ref a0_)] := Own.aloadN r d3_36 rfl rfl
    replace r : A3 l Z n0 D h 0 0 39 #[.val (.ref a0_), .val (.int p1), .val (.int p2), .val (.int p3), .val (.int x4), .val (.int x5), .val (.long x6), .second, .val (.int x8), sl9, .unset] [(.int x8), (.ref a0_)] := Own.iload r d3_37 rfl
    replace r : A3 l Z n0 D h 0 0 40 #[.val (.ref a0_), .val (.int p1), .val (.int p2), .val (.int p3), .val (.int x4), .val (.int x5), .val (.long x6), .second, .val (.int x8), sl9, .unset] [(.int (Own.ga L x8))] := Own.baload r d3_39 V_a0_ (own_ld hL he hx (by assumption)).1 (own_ld hL he hx (by assumption)).2
    obtain ⟨v9_2, e_v9_2⟩ : ∃ z : Int32, z = (Own.ga L x8) := ⟨_, rfl⟩
    replace r : A3 l Z n0 D h 0 0 40 #[.val (.ref a0_), .val (.int p1), .val (.int p2), .val (.int p3), .val (.int x4), .val (.int x5), .val (.long x6), .second, .val (.int x8), sl9, .unset] [(.int v9_2)] := by rw [e_v9_2]; exact r
    replace H := H _ e_v9_2
    replace r : A3 l Z n0 D h 0 0 42 #[.val (.ref a0_), .val (.int p1), .val (.int p2), .val (.int p3), .val (.int x4), .val (.int x5), .val (.long x6), .second, .val (.int x8), .val (.int v9_2), .unset] [] := Own.istoreS r d3_40 rfl o_sl9
    replace r : A3 l Z n0 D h 0 0 44 #[.val (.ref a0_), .val (.int p1), .val (.int p2), .val (.int p3), .val (.int x4), .val (.int x5), .val (.long x6), .second, .val (.int x8), .val (.int v9_2), .unset] [(.int v9_2)] := Own.iload r d3_42 rfl
    replace r : A3 l Z n0 D h 0 0 46 #[.val (.ref a0_), .val (.int p1), .val (.int p2), .val (.int p3), .val (.int x4), .val (.int x5), .val (.long x6), .second, .val (.int x8), .val (.int v9_2), .unset] [(.int (46 : Int32)), (.int v9_2)] := Own.bipush r d3_44 rfl
    by_cases br3 : v9_2 = (46 : Int32)
    · replace H := H.1 br3
      replace r : A3 l Z n0 D h 0 0 49 #[.val (.ref a0_), .val (.int p1), .val (.int p2), .val (.int p3), .val (.int x4), .val (.int x5), .val (.long x6), .second, .val (.int x8), .val (.int v9_2), .unset] [] := Own.icmpNo r d3_46 (teq br3).2
      replace r : A3 l Z n0 D h 0 0 51 #[.val (.ref a0_), .val (.int p1), .val (.int p2), .val (.int p3), .val (.int x4), .val (.int x5), .val (.long x6), .second, .val (.int x8), .val (.int v9_2), .unset] [(.int x5)] := Own.iload r d3_49 rfl
      by_cases br4 : x5 < (0 : Int32)
      · replace H := H.1 br4
        replace r : A3 l Z n0 D h 0 0 54 #[.val (.ref a0_), .val (.int p1), .val (.int p2), .val (.int p3), .val (.int x4), .val (.int x5), .val (.long x6), .second, .val (.int x8), .val (.int v9_2), .unset] [] := Own.ifNo r d3_51 ((if0 _ _).trans (tlt br4).2.1)
        replace r : A3 l Z n0 D h 0 0 56 #[.val (.ref a0_), .val (.int p1), .val (.int p2), .val (.int p3), .val (.int x4), .val (.int x5), .val (.long x6), .second, .val (.int x8), .val (.int v9_2), .unset] [(.int x8)] := Own.iload r d3_54 rfl
        replace r : A3 l Z n0 D h 0 0 57 #[.val (.ref a0_), .val (.int p1), .val (.int p2), .val (.int p3), .val (.int x4), .val (.int x5), .val (.long x6), .second, .val (.int x8), .val (.int v9_2), .unset] [(.int p1), (.int x8)] := Own.iloadN r d3_56 rfl
        by_cases br5 : p1 < x8
        · replace H := H.1 br5
          replace r : A3 l Z n0 D h 0 0 60 #[.val (.ref a0_), .val (.int p1), .val (.int p2), .val (.int p3), .val (.int x4), .val (.int x5), .val (.long x6), .second, .val (.int x8), .val (.int v9_2), .unset] [] := Own.icmpNo r d3_57 (tlt br5).2.2.2
          replace r : A3 l Z n0 D h 0 0 62 #[.val (.ref a0_), .val (.int p1), .val (.int p2), .val (.int p3), .val (.int x4), .val (.int x5), .val (.long x6), .second, .val (.int x8), .val (.int v9_2), .unset] [(.int x8)] := Own.iload r d3_60 rfl
          replace r : A3 l Z n0 D h 0 0 64 #[.val (.ref a0_), .val (.int p1), .val (.int p2), .val (.int p3), .val (.int x4), .val (.int x8), .val (.long x6), .second, .val (.int x8), .val (.int v9_2), .unset] [] := Own.istore r d3_62 rfl
          replace r : A3 l Z n0 D h 0 0 103 #[.val (.ref a0_), .val (.int p1), .val (.int p2), .val (.int p3), .val (.int x4), .val (.int x8), .val (.long x6), .second, .val (.int x8), .val (.int v9_2), .unset] [] := Own.goto r d3_64 (by decide) (by decide)
          replace r : A3 l Z n0 D h 0 0 106 #[.val (.ref a0_), .val (.int p1), .val (.int p2), .val (.int p3), .val (.int x4), .val (.int x8), .val (.long x6), .second, .val (.int (x8 + (1 : Int32))), .val (.int v9_2), .unset] [] := Own.iinc r d3_103 rfl rfl rfl
          replace r : A3 l Z n0 D h 0 0 30 #[.val (.ref a0_), .val (.int p1), .val (.int p2), .val (.int p3), .val (.int x4), .val (.int x8), .val (.long x6), .second, .val (.int (x8 + (1 : Int32))), .val (.int v9_2), .unset] [] := Own.goto r d3_106 (by decide) (by decide)
          exact h30 x4 x8 x6 (x8 + (1 : Int32)) (.val (.int v9_2)) (Or.inr ⟨_, rfl, rfl⟩) H r
        · replace H := H.2 br5
          replace r : A3 l Z n0 D h 0 0 67 #[.val (.ref a0_), .val (.int p1), .val (.int p2), .val (.int p3), .val (.int x4), .val (.int x5), .val (.long x6), .second, .val (.int x8), .val (.int v9_2), .unset] [] := Own.icmpYes r d3_57 (flt br5).2.2.2 (by decide) (by decide)
          replace r : A3 l Z n0 D h 0 0 69 #[.val (.ref a0_), .val (.int p1), .val (.int p2), .val (.int p3), .val (.int x4), .val (.int x5), .val (.long x6), .second, .val (.int x8), .val (.int v9_2), .unset] [(.int v9_2)] := Own.iload r d3_67 rfl
          replace r : A3 l Z n0 D h 0 0 71 #[.val (.ref a0_), .val (.int p1), .val (.int p2), .val (.int p3), .val (.int x4), .val (.int x5), .val (.long x6), .second, .val (.int x8), .val (.int v9_2), .unset] [(.int (48 : Int32)), (.int v9_2)] := Own.bipush r d3_69 rfl
          by_cases br6 : v9_2 < (48 : Int32)
          · replace H := H.1 br6
            replace r : A3 l Z n0 D h 0 0 99 #[.val (.ref a0_), .val (.int p1), .val (.int p2), .val (.int p3), .val (.int x4), .val (.int x5), .val (.long x6), .second, .val (.int x8), .val (.int v9_2), .unset] [] := Own.icmpYes r d3_71 (tlt br6).1 (by decide) (by decide)
            replace r : A3 l Z n0 D h 0 0 102 #[.val (.ref a0_), .val (.int p1), .val (.int p2), .val (.int p3), .val (.int x4), .val (.int x5), .val (.long x6), .second, .val (.int x8), .val (.int v9_2), .unset] [(.long (-1 : Int64))] := Own.ldcJ r d3_99 (hw _ (List.mem_of_getElem? (i := 34) rfl))
            exact ⟨_, _, (Own.Rch.retJ r d3_102).more (by decide) (by decide), rfl, _, rfl, H⟩
          · replace H := H.2 br6
            replace r : A3 l Z n0 D h 0 0 74 #[.val (.ref a0_), .val (.int p1), .val (.int p2), .val (.int p3), .val (.int x4), .val (.int x5), .val (.long x6), .second, .val (.int x8), .val (.int v9_2), .unset] [] := Own.icmpNo r d3_71 (flt br6).1
            replace r : A3 l Z n0 D h 0 0 76 #[.val (.ref a0_), .val (.int p1), .val (.int p2), .val (.int p3), .val (.int x4), .val (.int x5), .val (.long x6), .second, .val (.int x8), .val (.int v9_2), .unset] [(.int v9_2)] := Own.iload r d3_74 rfl
            replace r : A3 l Z n0 D h 0 0 78 #[.val (.ref a0_), .val (.int p1), .val (.int p2), .val (.int p3), .val (.int x4), .val (.int x5), .val (.long x6), .second, .val (.int x8), .val (.int v9_2), .unset] [(.int (57 : Int32)), (.int v9_2)] := Own.bipush r d3_76 rfl
            by_cases br7 : (57 : Int32) < v9_2
            · replace H := H.1 br7
              replace r : A3 l Z n0 D h 0 0 99 #[.val (.ref a0_), .val (.int p1), .val (.int p2), .val (.int p3), .val (.int x4), .val (.int x5), .val (.long x6), .second, .val (.int x8), .val (.int v9_2), .unset] [] := Own.icmpYes r d3_78 (tlt br7).2.2.1 (by decide) (by decide)
              replace r : A3 l Z n0 D h 0 0 102 #[.val (.ref a0_), .val (.int p1), .val (.int p2), .val (.int p3), .val (.int x4), .val (.int x5), .val (.long x6), .second, .val (.int x8), .val (.int v9_2), .unset] [(.long (-1 : Int64))] := Own.ldcJ r d3_99 (hw _ (List.mem_of_getElem? (i := 34) rfl))
              exact ⟨_, _, (Own.Rch.retJ r d3_102).more (by decide) (by decide), rfl, _, rfl, H⟩
            · replace H := H.2 br7
              replace r : A3 l Z n0 D h 0 0 81 #[.val (.ref a0_), .val (.int p1), .val (.int p2), .val (.int p3), .val (.int x4), .val (.int x5), .val (.long x6), .second, .val (.int x8), .val (.int v9_2), .unset] [] := Own.icmpNo r d3_78 (flt br7).2.2.1
              replace r : A3 l Z n0 D h 0 0 83 #[.val (.ref a0_), .val (.int p1), .val (.int p2), .val (.int p3), .val (.int x4), .val (.int x5), .val (.long x6), .second, .val (.int x8), .val (.int v9_2), .unset] [(.long x6)] := Own.lload r d3_81 rfl
              replace r : A3 l Z n0 D h 0 0 86 #[.val (.ref a0_), .val (.int p1), .val (.int p2), .val (.int p3), .val (.int x4), .val (.int x5), .val (.long x6), .second, .val (.int x8), .val (.int v9_2), .unset] [(.long (10 : Int64)), (.long x6)] := Own.ldcJ r d3_83 (hw _ (List.mem_of_getElem? (i := 33) rfl))
              replace r : A3 l Z n0 D h 0 0 87 #[.val (.ref a0_), .val (.int p1), .val (.int p2), .val (.int p3), .val (.int x4), .val (.int x5), .val (.long x6), .second, .val (.int x8), .val (.int v9_2), .unset] [(.long (x6 * (10 : Int64)))] := Own.lmul r d3_86
              replace r : A3 l Z n0 D h 0 0 89 #[.val (.ref a0_), .val (.int p1), .val (.int p2), .val (.int p3), .val (.int x4), .val (.int x5), .val (.long x6), .second, .val (.int x8), .val (.int v9_2), .unset] [(.int v9_2), (.long (x6 * (10 : Int64)))] := Own.iload r d3_87 rfl
              replace r : A3 l Z n0 D h 0 0 91 #[.val (.ref a0_), .val (.int p1), .val (.int p2), .val (.int p3), .val (.int x4), .val (.int x5), .val (.long x6), .second, .val (.int x8), .val (.int v9_2), .unset] [(.int (48 : Int32)), (.int v9_2), (.long (x6 * (10 : Int64)))] := Own.bipush r d3_89 rfl
              replace r : A3 l Z n0 D h 0 0 92 #[.val (.ref a0_), .val (.int p1), .val (.int p2), .val (.int p3), .val (.int x4), .val (.int x5), .val (.long x6), .second, .val (.int x8), .val (.int v9_2), .unset] [(.int (v9_2 - (48 : Int32))), (.long (x6 * (10 : Int64)))] := Own.isub r d3_91
              replace r : A3 l Z n0 D h 0 0 93 #[.val (.ref a0_), .val (.int p1), .val (.int p2), .val (.int p3), .val (.int x4), .val (.int x5), .val (.long x6), .second, .val (.int x8), .val (.int v9_2), .unset] [(.long (v9_2 - (48 : Int32)).toInt64), (.long (x6 * (10 : Int64)))] := Own.i2l r d3_92
              replace r : A3 l Z n0 D h 0 0 94 #[.val (.ref a0_), .val (.int p1), .val (.int p2), .val (.int p3), .val (.int x4), .val (.int x5), .val (.long x6), .second, .val (.int x8), .val (.int v9_2), .unset] [(.long ((x6 * (10 : Int64)) + (v9_2 - (48 : Int32)).toInt64))] := Own.ladd r d3_93
              obtain ⟨v6_8, e_v6_8⟩ : ∃ z : Int64, z = ((x6 * (10 : Int64)) + (v9_2 - (48 : Int32)).toInt64) := ⟨_, rfl⟩
              replace r : A3 l Z n0 D h 0 0 94 #[.val (.ref a0_), .val (.int p1), .val (.int p2), .val (.int p3), .val (.int x4), .val (.int x5), .val (.long x6), .second, .val (.int x8), .val (.int v9_2), .unset] [(.long v6_8)] := by rw [e_v6_8]; exact r
              replace H := H _ e_v6_8
              replace r : A3 l Z n0 D h 0 0 96 #[.val (.ref a0_), .val (.int p1), .val (.int p2), .val (.int p3), .val (.int x4), .val (.int x5), .val (.long v6_8), .second, .val (.int x8), .val (.int v9_2), .unset] [] := Own.lstore r d3_94 rfl
              replace r : A3 l Z n0 D h 0 0 103 #[.val (.ref a0_), .val (.int p1), .val (.int p2), .val (.int p3), .val (.int x4), .val (.int x5), .val (.long v6_8), .second, .val (.int x8), .val (.int v9_2), .unset] [] := Own.goto r d3_96 (by decide) (by decide)
              replace r : A3 l Z n0 D h 0 0 106 #[.val (.ref a0_), .val (.int p1), .val (.int p2), .val (.int p3), .val (.int x4), .val (.int x5), .val (.long v6_8), .second, .val (.int (x8 + (1 : Int32))), .val (.int v9_2), .unset] [] := Own.iinc r d3_103 rfl rfl rfl
              replace r : A3 l Z n0 D h 0 0 30 #[.val (.ref a0_), .val (.int p1), .val (.int p2), .val (.int p3), .val (.int x4), .val (.int x5), .val (.long v6_8), .second, .val (.int (x8 + (1 : Int32))), .val (.int v9_2), .unset] [] := Own.goto r d3_106 (by decide) (by decide)
              exact h30 x4 x5 v6_8 (x8 + (1 : Int32)) (.val (.int v9_2)) (Or.inr ⟨_, rfl, rfl⟩) H r
      · replace H := H.2 br4
        replace r : A3 l Z n0 D h 0 0 67 #[.val (.ref a0_), .val (.int p1), .val (.int p2), .val (.int p3), .val (.int x4), .val (.int x5), .val (.long x6), .second, .val (.int x8), .val (.int v9_2), .unset] [] := Own.ifYes r d3_51 ((if0 _ _).trans (flt br4).2.1) (by decide) (by decide)
        replace r : A3 l Z n0 D h 0 0 69 #[.val (.ref a0_), .val (.int p1), .val (.int p2), .val (.int p3), .val (.int x4), .val (.int x5), .val (.long x6), .second, .val (.int x8), .val (.int v9_2), .unset] [(.int v9_2)] := Own.iload r d3_67 rfl
        replace r : A3 l Z n0 D h 0 0 71 #[.val (.ref a0_), .val (.int p1), .val (.int p2), .val (.int p3), .val (.int x4), .val (.int x5), .val (.long x6), .second, .val (.int x8), .val (.int v9_2), .unset] [(.int (48 : Int32)), (.int v9_2)] := Own.bipush r d3_69 rfl
        by_cases br9 : v9_2 < (48 : Int32)
        · replace H := H.1 br9
          replace r : A3 l Z n0 D h 0 0 99 #[.val (.ref a0_), .val (.int p1), .val (.int p2), .val (.int p3), .val (.int x4), .val (.int x5), .val (.long x6), .second, .val (.int x8), .val (.int v9_2), .unset] [] := Own.icmpYes r d3_71 (tlt br9).1 (by decide) (by decide)
          replace r : A3 l Z n0 D h 0 0 102 #[.val (.ref a0_), .val (.int p1), .val (.int p2), .val (.int p3), .val (.int x4), .val (.int x5), .val (.long x6), .second, .val (.int x8), .val (.int v9_2), .unset] [(.long (-1 : Int64))] := Own.ldcJ r d3_99 (hw _ (List.mem_of_getElem? (i := 34) rfl))
          exact ⟨_, _, (Own.Rch.retJ r d3_102).more (by decide) (by decide), rfl, _, rfl, H⟩
        · replace H := H.2 br9
          replace r : A3 l Z n0 D h 0 0 74 #[.val (.ref a0_), .val (.int p1), .val (.int p2), .val (.int p3), .val (.int x4), .val (.int x5), .val (.long x6), .second, .val (.int x8), .val (.int v9_2), .unset] [] := Own.icmpNo r d3_71 (flt br9).1
          replace r : A3 l Z n0 D h 0 0 76 #[.val (.ref a0_), .val (.int p1), .val (.int p2), .val (.int p3), .val (.int x4), .val (.int x5), .val (.long x6), .second, .val (.int x8), .val (.int v9_2), .unset] [(.int v9_2)] := Own.iload r d3_74 rfl
          replace r : A3 l Z n0 D h 0 0 78 #[.val (.ref a0_), .val (.int p1), .val (.int p2), .val (.int p3), .val (.int x4), .val (.int x5), .val (.long x6), .second, .val (.int x8), .val (.int v9_2), .unset] [(.int (57 : Int32)), (.int v9_2)] := Own.bipush r d3_76 rfl
          by_cases br10 : (57 : Int32) < v9_2
          · replace H := H.1 br10
            replace r : A3 l Z n0 D h 0 0 99 #[.val (.ref a0_), .val (.int p1), .val (.int p2), .val (.int p3), .val (.int x4), .val (.int x5), .val (.long x6), .second, .val (.int x8), .val (.int v9_2), .unset] [] := Own.icmpYes r d3_78 (tlt br10).2.2.1 (by decide) (by decide)
            replace r : A3 l Z n0 D h 0 0 102 #[.val (.ref a0_), .val (.int p1), .val (.int p2), .val (.int p3), .val (.int x4), .val (.int x5), .val (.long x6), .second, .val (.int x8), .val (.int v9_2), .unset] [(.long (-1 : Int64))] := Own.ldcJ r d3_99 (hw _ (List.mem_of_getElem? (i := 34) rfl))
            exact ⟨_, _, (Own.Rch.retJ r d3_102).more (by decide) (by decide), rfl, _, rfl, H⟩
          · replace H := H.2 br10
            replace r : A3 l Z n0 D h 0 0 81 #[.val (.ref a0_), .val (.int p1), .val (.int p2), .val (.int p3), .val (.int x4), .val (.int x5), .val (.long x6), .second, .val (.int x8), .val (.int v9_2), .unset] [] := Own.icmpNo r d3_78 (flt br10).2.2.1
            replace r : A3 l Z n0 D h 0 0 83 #[.val (.ref a0_), .val (.int p1), .val (.int p2), .val (.int p3), .val (.int x4), .val (.int x5), .val (.long x6), .second, .val (.int x8), .val (.int v9_2), .unset] [(.long x6)] := Own.lload r d3_81 rfl
            replace r : A3 l Z n0 D h 0 0 86 #[.val (.ref a0_), .val (.int p1), .val (.int p2), .val (.int p3), .val (.int x4), .val (.int x5), .val (.long x6), .second, .val (.int x8), .val (.int v9_2), .unset] [(.long (10 : Int64)), (.long x6)] := Own.ldcJ r d3_83 (hw _ (List.mem_of_getElem? (i := 33) rfl))
            replace r : A3 l Z n0 D h 0 0 87 #[.val (.ref a0_), .val (.int p1), .val (.int p2), .val (.int p3), .val (.int x4), .val (.int x5), .val (.long x6), .second, .val (.int x8), .val (.int v9_2), .unset] [(.long (x6 * (10 : Int64)))] := Own.lmul r d3_86
            replace r : A3 l Z n0 D h 0 0 89 #[.val (.ref a0_), .val (.int p1), .val (.int p2), .val (.int p3), .val (.int x4), .val (.int x5), .val (.long x6), .second, .val (.int x8), .val (.int v9_2), .unset] [(.int v9_2), (.long (x6 * (10 : Int64)))] := Own.iload r d3_87 rfl
            replace r : A3 l Z n0 D h 0 0 91 #[.val (.ref a0_), .val (.int p1), .val (.int p2), .val (.int p3), .val (.int x4), .val (.int x5), .val (.long x6), .second, .val (.int x8), .val (.int v9_2), .unset] [(.int (48 : Int32)), (.int v9_2), (.long (x6 * (10 : Int64)))] := Own.bipush r d3_89 rfl
            replace r : A3 l Z n0 D h 0 0 92 #[.val (.ref a0_), .val (.int p1), .val (.int p2), .val (.int p3), .val (.int x4), .val (.int x5), .val (.long x6), .second, .val (.int x8), .val (.int v9_2), .unset] [(.int (v9_2 - (48 : Int32))), (.long (x6 * (10 : Int64)))] := Own.isub r d3_91
            replace r : A3 l Z n0 D h 0 0 93 #[.val (.ref a0_), .val (.int p1), .val (.int p2), .val (.int p3), .val (.int x4), .val (.int x5), .val (.long x6), .second, .val (.int x8), .val (.int v9_2), .unset] [(.long (v9_2 - (48 : Int32)).toInt64), (.long (x6 * (10 : Int64)))] := Own.i2l r d3_92
            replace r : A3 l Z n0 D h 0 0 94 #[.val (.ref a0_), .val (.int p1), .val (.int p2), .val (.int p3), .val (.int x4), .val (.int x5), .val (.long x6), .second, .val (.int x8), .val (.int v9_2), .unset] [(.long ((x6 * (10 : Int64)) + (v9_2 - (48 : Int32)).toInt64))] := Own.ladd r d3_93
            obtain ⟨v6_11, e_v6_11⟩ : ∃ z : Int64, z = ((x6 * (10 : Int64)) + (v9_2 - (48 : Int32)).toInt64) := ⟨_, rfl⟩
            replace r : A3 l Z n0 D h 0 0 94 #[.val (.ref a0_), .val (.int p1), .val (.int p2), .val (.int p3), .val (.int x4), .val (.int x5), .val (.long x6), .second, .val (.int x8), .val (.int v9_2), .unset] [(.long v6_11)] := by rw [e_v6_11]; exact r
            replace H := H _ e_v6_11
            replace r : A3 l Z n0 D h 0 0 96 #[.val (.ref a0_), .val (.int p1), .val (.int p2), .val (.int p3), .val (.int x4), .val (.int x5), .val (.long v6_11), .second, .val (.int x8), .val (.int v9_2), .unset] [] := Own.lstore r d3_94 rfl
            replace r : A3 l Z n0 D h 0 0 103 #[.val (.ref a0_), .val (.int p1), .val (.int p2), .val (.int p3), .val (.int x4), .val (.int x5), .val (.long v6_11), .second, .val (.int x8), .val (.int v9_2), .unset] [] := Own.goto r d3_96 (by decide) (by decide)
            replace r : A3 l Z n0 D h 0 0 106 #[.val (.ref a0_), .val (.int p1), .val (.int p2), .val (.int p3), .val (.int x4), .val (.int x5), .val (.long v6_11), .second, .val (.int (x8 + (1 : Int32))), .val (.int v9_2), .unset] [] := Own.iinc r d3_103 rfl rfl rfl
            replace r : A3 l Z n0 D h 0 0 30 #[.val (.ref a0_), .val (.int p1), .val (.int p2), .val (.int p3), .val (.int x4), .val (.int x5), .val (.long v6_11), .second, .val (.int (x8 + (1 : Int32))), .val (.int v9_2), .unset] [] := Own.goto r d3_106 (by decide) (by decide)
            exact h30 x4 x5 v6_11 (x8 + (1 : Int32)) (.val (.int v9_2)) (Or.inr ⟨_, rfl, rfl⟩) H r
    · replace H := H.2 br3
      replace r : A3 l Z n0 D h 0 0 67 #[.val (.ref a0_), .val (.int p1), .val (.int p2), .val (.int p3), .val (.int x4), .val (.int x5), .val (.long x6), .second, .val (.int x8), .val (.int v9_2), .unset] [] := Own.icmpYes r d3_46 (feq br3).2 (by decide) (by decide)
      replace r : A3 l Z n0 D h 0 0 69 #[.val (.ref a0_), .val (.int p1), .val (.int p2), .val (.int p3), .val (.int x4), .val (.int x5), .val (.long x6), .second, .val (.int x8), .val (.int v9_2), .unset] [(.int v9_2)] := Own.iload r d3_67 rfl
      replace r : A3 l Z n0 D h 0 0 71 #[.val (.ref a0_), .val (.int p1), .val (.int p2), .val (.int p3), .val (.int x4), .val (.int x5), .val (.long x6), .second, .val (.int x8), .val (.int v9_2), .unset] [(.int (48 : Int32)), (.int v9_2)] := Own.bipush r d3_69 rfl
      by_cases br12 : v9_2 < (48 : Int32)
      · replace H := H.1 br12
        replace r : A3 l Z n0 D h 0 0 99 #[.val (.ref a0_), .val (.int p1), .val (.int p2), .val (.int p3), .val (.int x4), .val (.int x5), .val (.long x6), .second, .val (.int x8), .val (.int v9_2), .unset] [] := Own.icmpYes r d3_71 (tlt br12).1 (by decide) (by decide)
        replace r : A3 l Z n0 D h 0 0 102 #[.val (.ref a0_), .val (.int p1), .val (.int p2), .val (.int p3), .val (.int x4), .val (.int x5), .val (.long x6), .second, .val (.int x8), .val (.int v9_2), .unset] [(.long (-1 : Int64))] := Own.ldcJ r d3_99 (hw _ (List.mem_of_getElem? (i := 34) rfl))
        exact ⟨_, _, (Own.Rch.retJ r d3_102).more (by decide) (by decide), rfl, _, rfl, H⟩
      · replace H := H.2 br12
        replace r : A3 l Z n0 D h 0 0 74 #[.val (.ref a0_), .val (.int p1), .val (.int p2), .val (.int p3), .val (.int x4), .val (.int x5), .val (.long x6), .second, .val (.int x8), .val (.int v9_2), .unset] [] := Own.icmpNo r d3_71 (flt br12).1
        replace r : A3 l Z n0 D h 0 0 76 #[.val (.ref a0_), .val (.int p1), .val (.int p2), .val (.int p3), .val (.int x4), .val (.int x5), .val (.long x6), .second, .val (.int x8), .val (.int v9_2), .unset] [(.int v9_2)] := Own.iload r d3_74 rfl
        replace r : A3 l Z n0 D h 0 0 78 #[.val (.ref a0_), .val (.int p1), .val (.int p2), .val (.int p3), .val (.int x4), .val (.int x5), .val (.long x6), .second, .val (.int x8), .val (.int v9_2), .unset] [(.int (57 : Int32)), (.int v9_2)] := Own.bipush r d3_76 rfl
        by_cases br13 : (57 : Int32) < v9_2
        · replace H := H.1 br13
          replace r : A3 l Z n0 D h 0 0 99 #[.val (.ref a0_), .val (.int p1), .val (.int p2), .val (.int p3), .val (.int x4), .val (.int x5), .val (.long x6), .second, .val (.int x8), .val (.int v9_2), .unset] [] := Own.icmpYes r d3_78 (tlt br13).2.2.1 (by decide) (by decide)
          replace r : A3 l Z n0 D h 0 0 102 #[.val (.ref a0_), .val (.int p1), .val (.int p2), .val (.int p3), .val (.int x4), .val (.int x5), .val (.long x6), .second, .val (.int x8), .val (.int v9_2), .unset] [(.long (-1 : Int64))] := Own.ldcJ r d3_99 (hw _ (List.mem_of_getElem? (i := 34) rfl))
          exact ⟨_, _, (Own.Rch.retJ r d3_102).more (by decide) (by decide), rfl, _, rfl, H⟩
        · replace H := H.2 br13
          replace r : A3 l Z n0 D h 0 0 81 #[.val (.ref a0_), .val (.int p1), .val (.int p2), .val (.int p3), .val (.int x4), .val (.int x5), .val (.long x6), .second, .val (.int x8), .val (.int v9_2), .unset] [] := Own.icmpNo r d3_78 (flt br13).2.2.1
          replace r : A3 l Z n0 D h 0 0 83 #[.val (.ref a0_), .val (.int p1), .val (.int p2), .val (.int p3), .val (.int x4), .val (.int x5), .val (.long x6), .second, .val (.int x8), .val (.int v9_2), .unset] [(.long x6)] := Own.lload r d3_81 rfl
          replace r : A3 l Z n0 D h 0 0 86 #[.val (.ref a0_), .val (.int p1), .val (.int p2), .val (.int p3), .val (.int x4), .val (.int x5), .val (.long x6), .second, .val (.int x8), .val (.int v9_2), .unset] [(.long (10 : Int64)), (.long x6)] := Own.ldcJ r d3_83 (hw _ (List.mem_of_getElem? (i := 33) rfl))
          replace r : A3 l Z n0 D h 0 0 87 #[.val (.ref a0_), .val (.int p1), .val (.int p2), .val (.int p3), .val (.int x4), .val (.int x5), .val (.long x6), .second, .val (.int x8), .val (.int v9_2), .unset] [(.long (x6 * (10 : Int64)))] := Own.lmul r d3_86
          replace r : A3 l Z n0 D h 0 0 89 #[.val (.ref a0_), .val (.int p1), .val (.int p2), .val (.int p3), .val (.int x4), .val (.int x5), .val (.long x6), .second, .val (.int x8), .val (.int v9_2), .unset] [(.int v9_2), (.long (x6 * (10 : Int64)))] := Own.iload r d3_87 rfl
          replace r : A3 l Z n0 D h 0 0 91 #[.val (.ref a0_), .val (.int p1), .val (.int p2), .val (.int p3), .val (.int x4), .val (.int x5), .val (.long x6), .second, .val (.int x8), .val (.int v9_2), .unset] [(.int (48 : Int32)), (.int v9_2), (.long (x6 * (10 : Int64)))] := Own.bipush r d3_89 rfl
          replace r : A3 l Z n0 D h 0 0 92 #[.val (.ref a0_), .val (.int p1), .val (.int p2), .val (.int p3), .val (.int x4), .val (.int x5), .val (.long x6), .second, .val (.int x8), .val (.int v9_2), .unset] [(.int (v9_2 - (48 : Int32))), (.long (x6 * (10 : Int64)))] := Own.isub r d3_91
          replace r : A3 l Z n0 D h 0 0 93 #[.val (.ref a0_), .val (.int p1), .val (.int p2), .val (.int p3), .val (.int x4), .val (.int x5), .val (.long x6), .second, .val (.int x8), .val (.int v9_2), .unset] [(.long (v9_2 - (48 : Int32)).toInt64), (.long (x6 * (10 : Int64)))] := Own.i2l r d3_92
          replace r : A3 l Z n0 D h 0 0 94 #[.val (.ref a0_), .val (.int p1), .val (.int p2), .val (.int p3), .val (.int x4), .val (.int x5), .val (.long x6), .second, .val (.int x8), .val (.int v9_2), .unset] [(.long ((x6 * (10 : Int64)) + (v9_2 - (48 : Int32)).toInt64))] := Own.ladd r d3_93
          obtain ⟨v6_14, e_v6_14⟩ : ∃ z : Int64, z = ((x6 * (10 : Int64)) + (v9_2 - (48 : Int32)).toInt64) := ⟨_, rfl⟩
          replace r : A3 l Z n0 D h 0 0 94 #[.val (.ref a0_), .val (.int p1), .val (.int p2), .val (.int p3), .val (.int x4), .val (.int x5), .val (.long x6), .second, .val (.int x8), .val (.int v9_2), .unset] [(.long v6_14)] := by rw [e_v6_14]; exact r
          replace H := H _ e_v6_14
          replace r : A3 l Z n0 D h 0 0 96 #[.val (.ref a0_), .val (.int p1), .val (.int p2), .val (.int p3), .val (.int x4), .val (.int x5), .val (.long v6_14), .second, .val (.int x8), .val (.int v9_2), .unset] [] := Own.lstore r d3_94 rfl
          replace r : A3 l Z n0 D h 0 0 103 #[.val (.ref a0_), .val (.int p1), .val (.int p2), .val (.int p3), .val (.int x4), .val (.int x5), .val (.long v6_14), .second, .val (.int x8), .val (.int v9_2), .unset] [] := Own.goto r d3_96 (by decide) (by decide)
          replace r : A3 l Z n0 D h 0 0 106 #[.val (.ref a0_), .val (.int p1), .val (.int p2), .val (.int p3), .val (.int x4), .val (.int x5), .val (.long v6_14), .second, .val (.int (x8 + (1 : Int32))), .val (.int v9_2), .unset] [] := Own.iinc r d3_103 rfl rfl rfl
          replace r : A3 l Z n0 D h 0 0 30 #[.val (.ref a0_), .val (.int p1), .val (.int p2), .val (.int p3), .val (.int x4), .val (.int x5), .val (.long v6_14), .second, .val (.int (x8 + (1 : Int32))), .val (.int v9_2), .unset] [] := Own.goto r d3_106 (by decide) (by decide)
          exact h30 x4 x5 v6_14 (x8 + (1 : Int32)) (.val (.int v9_2)) (Or.inr ⟨_, rfl, rfl⟩) H r
  · replace H := H.2 br1
    replace r : A3 l Z n0 D h 0 0 109 #[.val (.ref a0_), .val (.int p1), .val (.int p2), .val (.int p3), .val (.int x4), .val (.int x5), .val (.long x6), .second, .val (.int x8), sl9, .unset] [] := Own.icmpYes r d3_33 (flt br1).2.1 (by decide) (by decide)
    exact h109 x4 x5 x6 x8 (sl9) o_sl9 H r
set_option maxRecDepth 65536 in
set_option maxHeartbeats 40000000 in
theorem w3_109 (l : Launch) (Z : State) (a0 : Array Value) (hw : ∀ d ∈ tables_1, d.before a0 Z = true) (n0 : Nat) (h : Heap) (Zs : n0 ≤ h.size) (D : Own.Dyn) (a0_ : Addr) (p1 : Int32) (p2 : Int32) (p3 : Int32) (L : List Int32) (V_a0_ : Own.VA Z h a0_ .byte (L.map Value.int)) (hL : L.length = 22) (hs : 0 ≤ p1.toInt) (he : p2.toInt ≤ 22) (x4 : Int32) (x5 : Int32) (x6 : Int64) (x8 : Int32) (sl9 : Slot) (o_sl9 : (sl9 = .unset ∨ ∃ w, sl9 = .val w ∧ w.category = 1)) (P : Int64 → Prop) (N175 : Int32 → Int32 → Int64 → Int32 → Int32 → Int32 → Prop) (h175 : ∀ (x4 : Int32) (x5 : Int32) (x6 : Int64) (x8 : Int32) (x9 : Int32) (x10 : Int32), N175 x4 x5 x6 x8 x9 x10 → A3 l Z n0 D h 0 0 175 #[.val (.ref a0_), .val (.int p1), .val (.int p2), .val (.int p3), .val (.int x4), .val (.int x5), .val (.long x6), .second, .val (.int x8), .val (.int x9), .val (.int x10)] [] → ∃ v h', Own.Don l Z n0 R3 D h' R3.cells R3.slots v ∧ h = h' ∧ ∃ w : Int64, v = some (.long w) ∧ P w) (H : ∀ m1 : Int32, m1 = (if x5 < (0 : Int32) then x4 else (x5 - p1)) → ∀ m3 : Int32, m3 = (if x5 < (0 : Int32) then (0 : Int32) else ((p2 - x5) - (1 : Int32))) → ((x5 < (0 : Int32) → ((p3 < m3 → P (-1 : Int64)) ∧ (¬ (p3 < m3) → (((18 : Int32) < (m1 + p3) → P (-1 : Int64)) ∧ (¬ ((18 : Int32) < (m1 + p3)) → N175 x4 x5 x6 m1 m3 m3))))) ∧ (¬ (x5 < (0 : Int32)) → ((m3 = (0 : Int32) → P (-1 : Int64)) ∧ (¬ (m3 = (0 : Int32)) → ((p3 < m3 → P (-1 : Int64)) ∧ (¬ (p3 < m3) → (((18 : Int32) < (m1 + p3) → P (-1 : Int64)) ∧ (¬ ((18 : Int32) < (m1 + p3)) → N175 x4 x5 x6 m1 m3 m3))))))))) (r : A3 l Z n0 D h 0 0 109 #[.val (.ref a0_), .val (.int p1), .val (.int p2), .val (.int p3), .val (.int x4), .val (.int x5), .val (.long x6), .second, .val (.int x8), sl9, .unset] []) :
    ∃ v h', Own.Don l Z n0 R3 D h' R3.cells R3.slots v ∧ h = h' ∧ ∃ w : Int64, v = some (.long w) ∧ P w := by
  replace r : A3 l Z n0 D h 0 0 111 #[.val (.ref a0_), .val (.int p1), .val (.int p2), .val (.int p3), .val (.int x4), .val (.int x5), .val (.long x6), .second, .val (.int x8), sl9, .unset] [(.int x5)] := Own.iload r d3_109 rfl
  obtain ⟨m1, e_m1, r⟩ : ∃ (m1 : Int32), m1 = (if x5 < (0 : Int32) then x4 else (x5 - p1)) ∧ A3 l Z n0 D h 0 0 123 #[.val (.ref a0_), .val (.int p1), .val (.int p2), .val (.int p3), .val (.int x4), .val (.int x5), .val (.long x6), .second, .val (.int x8), sl9, .unset] [(.int m1)] := by
    by_cases br2 : x5 < (0 : Int32)
    · skip
      replace r : A3 l Z n0 D h 0 0 114 #[.val (.ref a0_), .val (.int p1), .val (.int p2), .val (.int p3), .val (.int x4), .val (.int x5), .val (.long x6), .second, .val (.int x8), sl9, .unset] [] := Own.ifNo r d3_111 ((if0 _ _).trans (tlt br2).2.1)
      replace r : A3 l Z n0 D h 0 0 116 #[.val (.ref a0_), .val (.int p1), .val (.int p2), .val (.int p3), .val (.int x4), .val (.int x5), .val (.long x6), .second, .val (.int x8), sl9, .unset] [(.int x4)] := Own.iload r d3_114 rfl
      replace r : A3 l Z n0 D h 0 0 123 #[.val (.ref a0_), .val (.int p1), .val (.int p2), .val (.int p3), .val (.int x4), .val (.int x5), .val (.long x6), .second, .val (.int x8), sl9, .unset] [(.int x4)] := Own.goto r d3_116 (by decide) (by decide)
      exact ⟨_, by rw [if_pos br2], r⟩
    · skip
      replace r : A3 l Z n0 D h 0 0 119 #[.val (.ref a0_), .val (.int p1), .val (.int p2), .val (.int p3), .val (.int x4), .val (.int x5), .val (.long x6), .second, .val (.int x8), sl9, .unset] [] := Own.ifYes r d3_111 ((if0 _ _).trans (flt br2).2.1) (by decide) (by decide)
      replace r : A3 l Z n0 D h 0 0 121 #[.val (.ref a0_), .val (.int p1), .val (.int p2), .val (.int p3), .val (.int x4), .val (.int x5), .val (.long x6), .second, .val (.int x8), sl9, .unset] [(.int x5)] := Own.iload r d3_119 rfl
      replace r : A3 l Z n0 D h 0 0 122 #[.val (.ref a0_), .val (.int p1), .val (.int p2), .val (.int p3), .val (.int x4), .val (.int x5), .val (.long x6), .second, .val (.int x8), sl9, .unset] [(.int p1), (.int x5)] := Own.iloadN r d3_121 rfl
      replace r : A3 l Z n0 D h 0 0 123 #[.val (.ref a0_), .val (.int p1), .val (.int p2), .val (.int p3), .val (.int x4), .val (.int x5), .val (.long x6), .second, .val (.int x8), sl9, .unset] [(.int (x5 - p1))] := Own.isub r d3_122
      exact ⟨_, by rw [if_neg br2], r⟩
  replace H := H _ e_m1
  replace r : A3 l Z n0 D h 0 0 125 #[.val (.ref a0_), .val (.int p1), .val (.int p2), .val (.int p3), .val (.int x4), .val (.int x5), .val (.long x6), .second, .val (.int m1), sl9, .unset] [] := Own.istore r d3_123 rfl
  replace r : A3 l Z n0 D h 0 0 127 #[.val (.ref a0_), .val (.int p1), .val (.int p2), .val (.int p3), .val (.int x4), .val (.int x5), .val (.long x6), .second, .val (.int m1), sl9, .unset] [(.int x5)] := Own.iload r d3_125 rfl
  obtain ⟨m3, e_m3, r⟩ : ∃ (m3 : Int32), m3 = (if x5 < (0 : Int32) then (0 : Int32) else ((p2 - x5) - (1 : Int32))) ∧ A3 l Z n0 D h 0 0 140 #[.val (.ref a0_), .val (.int p1), .val (.int p2), .val (.int p3), .val (.int x4), .val (.int x5), .val (.long x6), .second, .val (.int m1), sl9, .unset] [(.int m3)] := by
    by_cases br4 : x5 < (0 : Int32)
    · skip
      replace r : A3 l Z n0 D h 0 0 130 #[.val (.ref a0_), .val (.int p1), .val (.int p2), .val (.int p3), .val (.int x4), .val (.int x5), .val (.long x6), .second, .val (.int m1), sl9, .unset] [] := Own.ifNo r d3_127 ((if0 _ _).trans (tlt br4).2.1)
      replace r : A3 l Z n0 D h 0 0 131 #[.val (.ref a0_), .val (.int p1), .val (.int p2), .val (.int p3), .val (.int x4), .val (.int x5), .val (.long x6), .second, .val (.int m1), sl9, .unset] [(.int (0 : Int32))] := Own.iconst r d3_130 rfl
      replace r : A3 l Z n0 D h 0 0 140 #[.val (.ref a0_), .val (.int p1), .val (.int p2), .val (.int p3), .val (.int x4), .val (.int x5), .val (.long x6), .second, .val (.int m1), sl9, .unset] [(.int (0 : Int32))] := Own.goto r d3_131 (by decide) (by decide)
      exact ⟨_, by rw [if_pos br4], r⟩
    · skip
      replace r : A3 l Z n0 D h 0 0 134 #[.val (.ref a0_), .val (.int p1), .val (.int p2), .val (.int p3), .val (.int x4), .val (.int x5), .val (.long x6), .second, .val (.int m1), sl9, .unset] [] := Own.ifYes r d3_127 ((if0 _ _).trans (flt br4).2.1) (by decide) (by decide)
      replace r : A3 l Z n0 D h 0 0 135 #[.val (.ref a0_), .val (.int p1), .val (.int p2), .val (.int p3), .val (.int x4), .val (.int x5), .val (.long x6), .second, .val (.int m1), sl9, .unset] [(.int p2)] := Own.iloadN r d3_134 rfl
      replace r : A3 l Z n0 D h 0 0 137 #[.val (.ref a0_), .val (.int p1), .val (.int p2), .val (.int p3), .val (.int x4), .val (.int x5), .val (.long x6), .second, .val (.int m1), sl9, .unset] [(.int x5), (.int p2)] := Own.iload r d3_135 rfl
      replace r : A3 l Z n0 D h 0 0 138 #[.val (.ref a0_), .val (.int p1), .val (.int p2), .val (.int p3), .val (.int x4), .val (.int x5), .val (.long x6), .second, .val (.int m1), sl9, .unset] [(.int (p2 - x5))] := Own.isub r d3_137
      replace r : A3 l Z n0 D h 0 0 139 #[.val (.ref a0_), .val (.int p1), .val (.int p2), .val (.int p3), .val (.int x4), .val (.int x5), .val (.long x6), .second, .val (.int m1), sl9, .unset] [(.int (1 : Int32)), (.int (p2 - x5))] := Own.iconst r d3_138 rfl
      replace r : A3 l Z n0 D h 0 0 140 #[.val (.ref a0_), .val (.int p1), .val (.int p2), .val (.int p3), .val (.int x4), .val (.int x5), .val (.long x6), .second, .val (.int m1), sl9, .unset] [(.int ((p2 - x5) - (1 : Int32)))] := Own.isub r d3_139
      exact ⟨_, by rw [if_neg br4], r⟩
  replace H := H _ e_m3
  replace r : A3 l Z n0 D h 0 0 142 #[.val (.ref a0_), .val (.int p1), .val (.int p2), .val (.int p3), .val (.int x4), .val (.int x5), .val (.long x6), .second, .val (.int m1), .val (.int m3), .unset] [] := Own.istoreS r d3_140 rfl o_sl9
  replace r : A3 l Z n0 D h 0 0 144 #[.val (.ref a0_), .val (.int p1), .val (.int p2), .val (.int p3), .val (.int x4), .val (.int x5), .val (.long x6), .second, .val (.int m1), .val (.int m3), .unset] [(.int x5)] := Own.iload r d3_142 rfl
  by_cases br5 : x5 < (0 : Int32)
  · replace H := H.1 br5
    replace r : A3 l Z n0 D h 0 0 152 #[.val (.ref a0_), .val (.int p1), .val (.int p2), .val (.int p3), .val (.int x4), .val (.int x5), .val (.long x6), .second, .val (.int m1), .val (.int m3), .unset] [] := Own.ifYes r d3_144 ((if0 _ _).trans (tlt br5).1) (by decide) (by decide)
    replace r : A3 l Z n0 D h 0 0 154 #[.val (.ref a0_), .val (.int p1), .val (.int p2), .val (.int p3), .val (.int x4), .val (.int x5), .val (.long x6), .second, .val (.int m1), .val (.int m3), .unset] [(.int m3)] := Own.iload r d3_152 rfl
    replace r : A3 l Z n0 D h 0 0 155 #[.val (.ref a0_), .val (.int p1), .val (.int p2), .val (.int p3), .val (.int x4), .val (.int x5), .val (.long x6), .second, .val (.int m1), .val (.int m3), .unset] [(.int p3), (.int m3)] := Own.iloadN r d3_154 rfl
    by_cases br6 : p3 < m3
    · replace H := H.1 br6
      replace r : A3 l Z n0 D h 0 0 167 #[.val (.ref a0_), .val (.int p1), .val (.int p2), .val (.int p3), .val (.int x4), .val (.int x5), .val (.long x6), .second, .val (.int m1), .val (.int m3), .unset] [] := Own.icmpYes r d3_155 (tlt br6).2.2.1 (by decide) (by decide)
      replace r : A3 l Z n0 D h 0 0 170 #[.val (.ref a0_), .val (.int p1), .val (.int p2), .val (.int p3), .val (.int x4), .val (.int x5), .val (.long x6), .second, .val (.int m1), .val (.int m3), .unset] [(.long (-1 : Int64))] := Own.ldcJ r d3_167 (hw _ (List.mem_of_getElem? (i := 34) rfl))
      exact ⟨_, _, (Own.Rch.retJ r d3_170).more (by decide) (by decide), rfl, _, rfl, H⟩
    · replace H := H.2 br6
      replace r : A3 l Z n0 D h 0 0 158 #[.val (.ref a0_), .val (.int p1), .val (.int p2), .val (.int p3), .val (.int x4), .val (.int x5), .val (.long x6), .second, .val (.int m1), .val (.int m3), .unset] [] := Own.icmpNo r d3_155 (flt br6).2.2.1
      replace r : A3 l Z n0 D h 0 0 160 #[.val (.ref a0_), .val (.int p1), .val (.int p2), .val (.int p3), .val (.int x4), .val (.int x5), .val (.long x6), .second, .val (.int m1), .val (.int m3), .unset] [(.int m1)] := Own.iload r d3_158 rfl
      replace r : A3 l Z n0 D h 0 0 161 #[.val (.ref a0_), .val (.int p1), .val (.int p2), .val (.int p3), .val (.int x4), .val (.int x5), .val (.long x6), .second, .val (.int m1), .val (.int m3), .unset] [(.int p3), (.int m1)] := Own.iloadN r d3_160 rfl
      replace r : A3 l Z n0 D h 0 0 162 #[.val (.ref a0_), .val (.int p1), .val (.int p2), .val (.int p3), .val (.int x4), .val (.int x5), .val (.long x6), .second, .val (.int m1), .val (.int m3), .unset] [(.int (m1 + p3))] := Own.iadd r d3_161
      replace r : A3 l Z n0 D h 0 0 164 #[.val (.ref a0_), .val (.int p1), .val (.int p2), .val (.int p3), .val (.int x4), .val (.int x5), .val (.long x6), .second, .val (.int m1), .val (.int m3), .unset] [(.int (18 : Int32)), (.int (m1 + p3))] := Own.bipush r d3_162 rfl
      by_cases br7 : (18 : Int32) < (m1 + p3)
      · replace H := H.1 br7
        replace r : A3 l Z n0 D h 0 0 167 #[.val (.ref a0_), .val (.int p1), .val (.int p2), .val (.int p3), .val (.int x4), .val (.int x5), .val (.long x6), .second, .val (.int m1), .val (.int m3), .unset] [] := Own.icmpNo r d3_164 (tlt br7).2.2.2
        replace r : A3 l Z n0 D h 0 0 170 #[.val (.ref a0_), .val (.int p1), .val (.int p2), .val (.int p3), .val (.int x4), .val (.int x5), .val (.long x6), .second, .val (.int m1), .val (.int m3), .unset] [(.long (-1 : Int64))] := Own.ldcJ r d3_167 (hw _ (List.mem_of_getElem? (i := 34) rfl))
        exact ⟨_, _, (Own.Rch.retJ r d3_170).more (by decide) (by decide), rfl, _, rfl, H⟩
      · replace H := H.2 br7
        replace r : A3 l Z n0 D h 0 0 171 #[.val (.ref a0_), .val (.int p1), .val (.int p2), .val (.int p3), .val (.int x4), .val (.int x5), .val (.long x6), .second, .val (.int m1), .val (.int m3), .unset] [] := Own.icmpYes r d3_164 (flt br7).2.2.2 (by decide) (by decide)
        replace r : A3 l Z n0 D h 0 0 173 #[.val (.ref a0_), .val (.int p1), .val (.int p2), .val (.int p3), .val (.int x4), .val (.int x5), .val (.long x6), .second, .val (.int m1), .val (.int m3), .unset] [(.int m3)] := Own.iload r d3_171 rfl
        replace r : A3 l Z n0 D h 0 0 175 #[.val (.ref a0_), .val (.int p1), .val (.int p2), .val (.int p3), .val (.int x4), .val (.int x5), .val (.long x6), .second, .val (.int m1), .val (.int m3), .val (.int m3)] [] := Own.istore r d3_173 rfl
        exact h175 x4 x5 x6 m1 m3 m3   H r
  · replace H := H.2 br5
    replace r : A3 l Z n0 D h 0 0 147 #[.val (.ref a0_), .val (.int p1), .val (.int p2), .val (.int p3), .val (.int x4), .val (.int x5), .val (.long x6), .second, .val (.int m1), .val (.int m3), .unset] [] := Own.ifNo r d3_144 ((if0 _ _).trans (flt br5).1)
    replace r : A3 l Z n0 D h 0 0 149 #[.val (.ref a0_), .val (.int p1), .val (.int p2), .val (.int p3), .val (.int x4), .val (.int x5), .val (.long x6), .second, .val (.int m1), .val (.int m3), .unset] [(.int m3)] := Own.iload r d3_147 rfl
    by_cases br8 : m3 = (0 : Int32)
    · replace H := H.1 br8
      replace r : A3 l Z n0 D h 0 0 167 #[.val (.ref a0_), .val (.int p1), .val (.int p2), .val (.int p3), .val (.int x4), .val (.int x5), .val (.long x6), .second, .val (.int m1), .val (.int m3), .unset] [] := Own.ifYes r d3_149 ((if0 _ _).trans (teq br8).1) (by decide) (by decide)
      replace r : A3 l Z n0 D h 0 0 170 #[.val (.ref a0_), .val (.int p1), .val (.int p2), .val (.int p3), .val (.int x4), .val (.int x5), .val (.long x6), .second, .val (.int m1), .val (.int m3), .unset] [(.long (-1 : Int64))] := Own.ldcJ r d3_167 (hw _ (List.mem_of_getElem? (i := 34) rfl))
      exact ⟨_, _, (Own.Rch.retJ r d3_170).more (by decide) (by decide), rfl, _, rfl, H⟩
    · replace H := H.2 br8
      replace r : A3 l Z n0 D h 0 0 152 #[.val (.ref a0_), .val (.int p1), .val (.int p2), .val (.int p3), .val (.int x4), .val (.int x5), .val (.long x6), .second, .val (.int m1), .val (.int m3), .unset] [] := Own.ifNo r d3_149 ((if0 _ _).trans (feq br8).1)
      replace r : A3 l Z n0 D h 0 0 154 #[.val (.ref a0_), .val (.int p1), .val (.int p2), .val (.int p3), .val (.int x4), .val (.int x5), .val (.long x6), .second, .val (.int m1), .val (.int m3), .unset] [(.int m3)] := Own.iload r d3_152 rfl
      replace r : A3 l Z n0 D h 0 0 155 #[.val (.ref a0_), .val (.int p1), .val (.int p2), .val (.int p3), .val (.int x4), .val (.int x5), .val (.long x6), .second, .val (.int m1), .val (.int m3), .unset] [(.int p3), (.int m3)] := Own.iloadN r d3_154 rfl
      by_cases br9 : p3 < m3
      · replace H := H.1 br9
        replace r : A3 l Z n0 D h 0 0 167 #[.val (.ref a0_), .val (.int p1), .val (.int p2), .val (.int p3), .val (.int x4), .val (.int x5), .val (.long x6), .second, .val (.int m1), .val (.int m3), .unset] [] := Own.icmpYes r d3_155 (tlt br9).2.2.1 (by decide) (by decide)
        replace r : A3 l Z n0 D h 0 0 170 #[.val (.ref a0_), .val (.int p1), .val (.int p2), .val (.int p3), .val (.int x4), .val (.int x5), .val (.long x6), .second, .val (.int m1), .val (.int m3), .unset] [(.long (-1 : Int64))] := Own.ldcJ r d3_167 (hw _ (List.mem_of_getElem? (i := 34) rfl))
        exact ⟨_, _, (Own.Rch.retJ r d3_170).more (by decide) (by decide), rfl, _, rfl, H⟩
      · replace H := H.2 br9
        replace r : A3 l Z n0 D h 0 0 158 #[.val (.ref a0_), .val (.int p1), .val (.int p2), .val (.int p3), .val (.int x4), .val (.int x5), .val (.long x6), .second, .val (.int m1), .val (.int m3), .unset] [] := Own.icmpNo r d3_155 (flt br9).2.2.1
        replace r : A3 l Z n0 D h 0 0 160 #[.val (.ref a0_), .val (.int p1), .val (.int p2), .val (.int p3), .val (.int x4), .val (.int x5), .val (.long x6), .second, .val (.int m1), .val (.int m3), .unset] [(.int m1)] := Own.iload r d3_158 rfl
        replace r : A3 l Z n0 D h 0 0 161 #[.val (.ref a0_), .val (.int p1), .val (.int p2), .val (.int p3), .val (.int x4), .val (.int x5), .val (.long x6), .second, .val (.int m1), .val (.int m3), .unset] [(.int p3), (.int m1)] := Own.iloadN r d3_160 rfl
        replace r : A3 l Z n0 D h 0 0 162 #[.val (.ref a0_), .val (.int p1), .val (.int p2), .val (.int p3), .val (.int x4), .val (.int x5), .val (.long x6), .second, .val (.int m1), .val (.int m3), .unset] [(.int (m1 + p3))] := Own.iadd r d3_161
        replace r : A3 l Z n0 D h 0 0 164 #[.val (.ref a0_), .val (.int p1), .val (.int p2), .val (.int p3), .val (.int x4), .val (.int x5), .val (.long x6), .second, .val (.int m1), .val (.int m3), .unset] [(.int (18 : Int32)), (.int (m1 + p3))] := Own.bipush r d3_162 rfl
        by_cases br10 : (18 : Int32) < (m1 + p3)
        · replace H := H.1 br10
          replace r : A3 l Z n0 D h 0 0 167 #[.val (.ref a0_), .val (.int p1), .val (.int p2), .val (.int p3), .val (.int x4), .val (.int x5), .val (.long x6), .second, .val (.int m1), .val (.int m3), .unset] [] := Own.icmpNo r d3_164 (tlt br10).2.2.2
          replace r : A3 l Z n0 D h 0 0 170 #[.val (.ref a0_), .val (.int p1), .val (.int p2), .val (.int p3), .val (.int x4), .val (.int x5), .val (.long x6), .second, .val (.int m1), .val (.int m3), .unset] [(.long (-1 : Int64))] := Own.ldcJ r d3_167 (hw _ (List.mem_of_getElem? (i := 34) rfl))
          exact ⟨_, _, (Own.Rch.retJ r d3_170).more (by decide) (by decide), rfl, _, rfl, H⟩
        · replace H := H.2 br10
          replace r : A3 l Z n0 D h 0 0 171 #[.val (.ref a0_), .val (.int p1), .val (.int p2), .val (.int p3), .val (.int x4), .val (.int x5), .val (.long x6), .second, .val (.int m1), .val (.int m3), .unset] [] := Own.icmpYes r d3_164 (flt br10).2.2.2 (by decide) (by decide)
          replace r : A3 l Z n0 D h 0 0 173 #[.val (.ref a0_), .val (.int p1), .val (.int p2), .val (.int p3), .val (.int x4), .val (.int x5), .val (.long x6), .second, .val (.int m1), .val (.int m3), .unset] [(.int m3)] := Own.iload r d3_171 rfl
          replace r : A3 l Z n0 D h 0 0 175 #[.val (.ref a0_), .val (.int p1), .val (.int p2), .val (.int p3), .val (.int x4), .val (.int x5), .val (.long x6), .second, .val (.int m1), .val (.int m3), .val (.int m3)] [] := Own.istore r d3_173 rfl
          exact h175 x4 x5 x6 m1 m3 m3   H r
set_option maxRecDepth 65536 in
set_option maxHeartbeats 40000000 in
theorem w3_175 (l : Launch) (Z : State) (a0 : Array Value) (hw : ∀ d ∈ tables_1, d.before a0 Z = true) (n0 : Nat) (h : Heap) (Zs : n0 ≤ h.size) (D : Own.Dyn) (a0_ : Addr) (p1 : Int32) (p2 : Int32) (p3 : Int32) (L : List Int32) (V_a0_ : Own.VA Z h a0_ .byte (L.map Value.int)) (hL : L.length = 22) (hs : 0 ≤ p1.toInt) (he : p2.toInt ≤ 22) (x4 : Int32) (x5 : Int32) (x6 : Int64) (x8 : Int32) (x9 : Int32) (x10 : Int32) (P : Int64 → Prop) (N175 : Int32 → Int32 → Int64 → Int32 → Int32 → Int32 → Prop) (h175 : ∀ (x4 : Int32) (x5 : Int32) (x6 : Int64) (x8 : Int32) (x9 : Int32) (x10 : Int32), N175 x4 x5 x6 x8 x9 x10 → A3 l Z n0 D h 0 0 175 #[.val (.ref a0_), .val (.int p1), .val (.int p2), .val (.int p3), .val (.int x4), .val (.int x5), .val (.long x6), .second, .val (.int x8), .val (.int x9), .val (.int x10)] [] → ∃ v h', Own.Don l Z n0 R3 D h' R3.cells R3.slots v ∧ h = h' ∧ ∃ w : Int64, v = some (.long w) ∧ P w) (H : ((x10 < p3 → ∀ v6_2 : Int64, v6_2 = (x6 * (10 : Int64)) → N175 x4 x5 v6_2 x8 x9 (x10 + (1 : Int32))) ∧ (¬ (x10 < p3) → P x6))) (r : A3 l Z n0 D h 0 0 175 #[.val (.ref a0_), .val (.int p1), .val (.int p2), .val (.int p3), .val (.int x4), .val (.int x5), .val (.long x6), .second, .val (.int x8), .val (.int x9), .val (.int x10)] []) :
    ∃ v h', Own.Don l Z n0 R3 D h' R3.cells R3.slots v ∧ h = h' ∧ ∃ w : Int64, v = some (.long w) ∧ P w := by
  replace r : A3 l Z n0 D h 0 0 177 #[.val (.ref a0_), .val (.int p1), .val (.int p2), .val (.int p3), .val (.int x4), .val (.int x5), .val (.long x6), .second, .val (.int x8), .val (.int x9), .val (.int x10)] [(.int x10)] := Own.iload r d3_175 rfl
  replace r : A3 l Z n0 D h 0 0 178 #[.val (.ref a0_), .val (.int p1), .val (.int p2), .val (.int p3), .val (.int x4), .val (.int x5), .val (.long x6), .second, .val (.int x8), .val (.int x9), .val (.int x10)] [(.int p3), (.int x10)] := Own.iloadN r d3_177 rfl
  by_cases br1 : x10 < p3
  · replace H := H.1 br1
    replace r : A3 l Z n0 D h 0 0 181 #[.val (.ref a0_), .val (.int p1), .val (.int p2), .val (.int p3), .val (.int x4), .val (.int x5), .val (.long x6), .second, .val (.int x8), .val (.int x9), .val (.int x10)] [] := Own.icmpNo r d3_178 (tlt br1).2.1
    replace r : A3 l Z n0 D h 0 0 183 #[.val (.ref a0_), .val (.int p1), .val (.int p2), .val (.int p3), .val (.int x4), .val (.int x5), .val (.long x6), .second, .val (.int x8), .val (.int x9), .val (.int x10)] [(.long x6)] := Own.lload r d3_181 rfl
    replace r : A3 l Z n0 D h 0 0 186 #[.val (.ref a0_), .val (.int p1), .val (.int p2), .val (.int p3), .val (.int x4), .val (.int x5), .val (.long x6), .second, .val (.int x8), .val (.int x9), .val (.int x10)] [(.long (10 : Int64)), (.long x6)] := Own.ldcJ r d3_183 (hw _ (List.mem_of_getElem? (i := 33) rfl))
    replace r : A3 l Z n0 D h 0 0 187 #[.val (.ref a0_), .val (.int p1), .val (.int p2), .val (.int p3), .val (.int x4), .val (.int x5), .val (.long x6), .second, .val (.int x8), .val (.int x9), .val (.int x10)] [(.long (x6 * (10 : Int64)))] := Own.lmul r d3_186
    obtain ⟨v6_2, e_v6_2⟩ : ∃ z : Int64, z = (x6 * (10 : Int64)) := ⟨_, rfl⟩
    replace r : A3 l Z n0 D h 0 0 187 #[.val (.ref a0_), .val (.int p1), .val (.int p2), .val (.int p3), .val (.int x4), .val (.int x5), .val (.long x6), .second, .val (.int x8), .val (.int x9), .val (.int x10)] [(.long v6_2)] := by rw [e_v6_2]; exact r
    replace H := H _ e_v6_2
    replace r : A3 l Z n0 D h 0 0 189 #[.val (.ref a0_), .val (.int p1), .val (.int p2), .val (.int p3), .val (.int x4), .val (.int x5), .val (.long v6_2), .second, .val (.int x8), .val (.int x9), .val (.int x10)] [] := Own.lstore r d3_187 rfl
    replace r : A3 l Z n0 D h 0 0 192 #[.val (.ref a0_), .val (.int p1), .val (.int p2), .val (.int p3), .val (.int x4), .val (.int x5), .val (.long v6_2), .second, .val (.int x8), .val (.int x9), .val (.int (x10 + (1 : Int32)))] [] := Own.iinc r d3_189 rfl rfl rfl
    replace r : A3 l Z n0 D h 0 0 175 #[.val (.ref a0_), .val (.int p1), .val (.int p2), .val (.int p3), .val (.int x4), .val (.int x5), .val (.long v6_2), .second, .val (.int x8), .val (.int x9), .val (.int (x10 + (1 : Int32)))] [] := Own.goto r d3_192 (by decide) (by decide)
    exact h175 x4 x5 v6_2 x8 x9 (x10 + (1 : Int32))   H r
  · replace H := H.2 br1
    replace r : A3 l Z n0 D h 0 0 195 #[.val (.ref a0_), .val (.int p1), .val (.int p2), .val (.int p3), .val (.int x4), .val (.int x5), .val (.long x6), .second, .val (.int x8), .val (.int x9), .val (.int x10)] [] := Own.icmpYes r d3_178 (flt br1).2.1 (by decide) (by decide)
    replace r : A3 l Z n0 D h 0 0 197 #[.val (.ref a0_), .val (.int p1), .val (.int p2), .val (.int p3), .val (.int x4), .val (.int x5), .val (.long x6), .second, .val (.int x8), .val (.int x9), .val (.int x10)] [(.long x6)] := Own.lload r d3_195 rfl
    exact ⟨_, _, (Own.Rch.retJ r d3_197).more (by decide) (by decide), rfl, _, rfl, H⟩

set_option maxRecDepth 65536 in
theorem own_r175 (l : Launch) (Z : State) (a0 : Array Value) (hw : ∀ d ∈ tables_1, d.before a0 Z = true) (n0 : Nat) (h : Heap) (Zs : n0 ≤ h.size) (D : Own.Dyn) (a0_ : Addr) (p1 : Int32) (p2 : Int32) (p3 : Int32) (L : List Int32) (V_a0_ : Own.VA Z h a0_ .byte (L.map Value.int)) (hL : L.length = 22) (hs : 0 ≤ p1.toInt) (he : p2.toInt ≤ 22) (hp3 : p3.toInt ≤ 100) : ∀ (n : Nat) (x4 x5 : Int32) (x6 : Int64) (x8 x9 x10 : Int32), x10.toInt + n = p3.toInt → -100 ≤ x10.toInt → A3 l Z n0 D h 0 0 175 #[.val (.ref a0_), .val (.int p1), .val (.int p2), .val (.int p3), .val (.int x4), .val (.int x5), .val (.long x6), .second, .val (.int x8), .val (.int x9), .val (.int x10)] [] → ∃ v h', Own.Don l Z n0 R3 D h' R3.cells R3.slots v ∧ h = h' ∧ ∃ w : Int64, v = some (.long w) ∧ w = own_l2 n x6 := by
  intro n
  induction n with
  | zero =>
    intro x4 x5 x6 x8 x9 x10 e b r
    refine w3_175 l Z a0 hw n0 h Zs D a0_ p1 p2 p3 L V_a0_ hL hs he x4 x5 x6 x8 x9 x10 (fun w => w = own_l2 0 x6) (fun _ _ _ _ _ _ => False) (fun _ _ _ _ _ _ f _ => f.elim) ⟨fun c => ?_, fun _ => rfl⟩ r
    rw [Int32.lt_iff_toInt_lt] at c; omega
  | succ n ih =>
    intro x4 x5 x6 x8 x9 x10 e b r
    have s1 := own_adds1 (x := x10) (by omega) (by omega)
    refine w3_175 l Z a0 hw n0 h Zs D a0_ p1 p2 p3 L V_a0_ hL hs he x4 x5 x6 x8 x9 x10 (fun w => w = own_l2 (n + 1) x6) (fun _ _ y6 _ _ y10 => y10 = x10 + (1 : Int32) ∧ y6 = x6 * (10 : Int64)) (fun y4 y5 y6 y8 y9 y10 q r' => ?_) ⟨fun _ v6 hv => ⟨rfl, hv⟩, fun c => ?_⟩ r
    · obtain ⟨rfl, rfl⟩ := q
      exact ih y4 y5 (x6 * (10 : Int64)) y8 y9 (x10 + (1 : Int32)) (by omega) (by omega) r'
    · rw [Int32.lt_iff_toInt_lt] at c; omega
set_option maxRecDepth 65536 in
theorem own_r109 (l : Launch) (Z : State) (a0 : Array Value) (hw : ∀ d ∈ tables_1, d.before a0 Z = true) (n0 : Nat) (h : Heap) (Zs : n0 ≤ h.size) (D : Own.Dyn) (a0_ : Addr) (p1 : Int32) (p2 : Int32) (p3 : Int32) (L : List Int32) (V_a0_ : Own.VA Z h a0_ .byte (L.map Value.int)) (hL : L.length = 22) (hs : 0 ≤ p1.toInt) (he : p2.toInt ≤ 22) (hp3 : -100 ≤ p3.toInt ∧ p3.toInt ≤ 100) (hp1 : p1.toInt ≤ 100) (hp2 : 0 ≤ p2.toInt) (x4 x5 : Int32) (x6 : Int64) (x8 : Int32) (sl9 : Slot) (o : (sl9 = .unset ∨ ∃ w, sl9 = .val w ∧ w.category = 1)) (e4 : x4 = p2 - p1) (b5 : -1 ≤ x5.toInt ∧ x5.toInt ≤ 50) (r : A3 l Z n0 D h 0 0 109 #[.val (.ref a0_), .val (.int p1), .val (.int p2), .val (.int p3), .val (.int x4), .val (.int x5), .val (.long x6), .second, .val (.int x8), sl9, .unset] []) : ∃ v h', Own.Don l Z n0 R3 D h' R3.cells R3.slots v ∧ h = h' ∧ ∃ w : Int64, v = some (.long w) ∧ w = own_fin p1 p2 p3 x5 x6 := by
  have z := own_z0
  refine w3_109 l Z a0 hw n0 h Zs D a0_ p1 p2 p3 L V_a0_ hL hs he x4 x5 x6 x8 sl9 o (fun w => w = own_fin p1 p2 p3 x5 x6) (fun _ y5 y6 y8 y9 y10 => y6 = x6 ∧ -100 ≤ y10.toInt ∧ y10.toInt ≤ p3.toInt ∧ own_l2 (p3.toInt - y10.toInt).toNat x6 = own_fin p1 p2 p3 x5 x6) (fun y4 y5 y6 y8 y9 y10 q r' => ?_) ?_ r
  · obtain ⟨rfl, q1, q2, q3⟩ := q
    have := own_r175 l Z a0 hw n0 h Zs D a0_ p1 p2 p3 L V_a0_ hL hs he hp3.2 (p3.toInt - y10.toInt).toNat y4 y5 y6 y8 y9 y10 (by omega) q1 r'
    rw [q3] at this; exact this
  · intro m1 e1 m3 e3
    unfold own_fin
    by_cases c : x5 < (0 : Int32)
    · rw [if_pos c] at e1 e3
      subst e1 e3 e4
      refine ⟨fun _ => ⟨fun d => by rw [if_pos c, if_pos d], fun d => ⟨fun f => by rw [if_pos c, if_neg d, if_pos f], fun f => ⟨rfl, by decide, ?_, ?_⟩⟩⟩, fun q => absurd c q⟩
      · rw [Int32.lt_iff_toInt_lt] at d; omega
      · rw [if_pos c, if_neg d, if_neg f, z, Int.sub_zero]
    · rw [if_neg c] at e1 e3
      subst e1 e3
      have s1 := own_subs (x := p2) (y := x5) (by omega) (by omega) (by omega) (by omega)
      have s2 := own_sub1 (x := p2 - x5) (by omega)
      rw [Int32.lt_iff_toInt_lt] at c
      refine ⟨fun q => absurd q (by rw [Int32.lt_iff_toInt_lt]; exact c), fun c' => ⟨fun d => by rw [if_neg c', if_pos d], fun d => ⟨fun f => by rw [if_neg c', if_neg d, if_pos f], fun f => ⟨fun g => by rw [if_neg c', if_neg d, if_neg f, if_pos g], fun g => ⟨rfl, by omega, ?_, ?_⟩⟩⟩⟩⟩
      · rw [Int32.lt_iff_toInt_lt] at f; omega
      · rw [if_neg c', if_neg d, if_neg f, if_neg g]
set_option maxRecDepth 65536 in
set_option maxHeartbeats 4000000 in
theorem own_r30 (l : Launch) (Z : State) (a0 : Array Value) (hw : ∀ d ∈ tables_1, d.before a0 Z = true) (n0 : Nat) (h : Heap) (Zs : n0 ≤ h.size) (D : Own.Dyn) (a0_ : Addr) (p1 : Int32) (p2 : Int32) (p3 : Int32) (L : List Int32) (V_a0_ : Own.VA Z h a0_ .byte (L.map Value.int)) (hL : L.length = 22) (hs : 0 ≤ p1.toInt) (he : p2.toInt ≤ 22) (hp3 : -100 ≤ p3.toInt ∧ p3.toInt ≤ 100) (hp1 : p1.toInt ≤ 100) (hp2 : 0 ≤ p2.toInt) : ∀ (n : Nat) (x4 x5 : Int32) (x6 : Int64) (x8 : Int32) (sl9 : Slot), x8.toInt + n = p2.toInt → 0 ≤ x8.toInt → x4 = p2 - p1 → (-1 ≤ x5.toInt ∧ x5.toInt ≤ 50) → (sl9 = .unset ∨ ∃ w, sl9 = .val w ∧ w.category = 1) → A3 l Z n0 D h 0 0 30 #[.val (.ref a0_), .val (.int p1), .val (.int p2), .val (.int p3), .val (.int x4), .val (.int x5), .val (.long x6), .second, .val (.int x8), sl9, .unset] [] → ∃ v h', Own.Don l Z n0 R3 D h' R3.cells R3.slots v ∧ h = h' ∧ ∃ w : Int64, v = some (.long w) ∧ w = own_l1 L p1 p2 p3 n x8 x5 x6 := by
  intro n
  induction n with
  | zero =>
    intro x4 x5 x6 x8 sl9 e b e4 b5 o r
    refine w3_30 l Z a0 hw n0 h Zs D a0_ p1 p2 p3 L V_a0_ hL hs he x4 x5 x6 x8 sl9 o b (fun w => w = own_l1 L p1 p2 p3 0 x8 x5 x6) (fun _ _ _ _ => False) (fun y4 y5 y6 _ => y4 = x4 ∧ y5 = x5 ∧ y6 = x6) (fun _ _ _ _ _ _ f _ => f.elim) (fun y4 y5 y6 y8 sl o' q r' => ?_) ⟨fun c => ?_, fun _ => ⟨rfl, rfl, rfl⟩⟩ r
    · obtain ⟨rfl, rfl, rfl⟩ := q
      exact own_r109 l Z a0 hw n0 h Zs D a0_ p1 p2 p3 L V_a0_ hL hs he hp3 hp1 hp2 y4 y5 y6 y8 sl o' e4 b5 r'
    · rw [Int32.lt_iff_toInt_lt] at c; omega
  | succ n ih =>
    intro x4 x5 x6 x8 sl9 e b e4 b5 o r
    have s1 := own_adds1 (x := x8) (by omega) (by omega)
    refine w3_30 l Z a0 hw n0 h Zs D a0_ p1 p2 p3 L V_a0_ hL hs he x4 x5 x6 x8 sl9 o b (fun w => w = own_l1 L p1 p2 p3 (n + 1) x8 x5 x6) (fun y4 y5 y6 y8 => y4 = x4 ∧ y8 = x8 + (1 : Int32) ∧ (-1 ≤ y5.toInt ∧ y5.toInt ≤ 50) ∧ own_l1 L p1 p2 p3 n (x8 + (1 : Int32)) y5 y6 = own_l1 L p1 p2 p3 (n + 1) x8 x5 x6) (fun _ _ _ _ => False) (fun y4 y5 y6 y8 sl o' q r' => ?_) (fun _ _ _ _ _ _ f _ => f.elim) ⟨fun _ => ?_, fun c => ?_⟩ r
    · obtain ⟨rfl, rfl, q1, q2⟩ := q
      have := ih y4 y5 y6 (x8 + (1 : Int32)) sl (by omega) (by omega) e4 q1 o' r'
      rw [q2] at this; exact this
    · intro v9 e9
      subst e9
      rw [own_l1]
      refine ⟨fun c1 => ⟨fun c2 => ⟨fun c3 => ⟨rfl, rfl, ⟨by omega, by omega⟩, by rw [if_pos ⟨c1, c2, c3⟩]⟩, fun c3 => ?_⟩, fun c2 => ?_⟩, fun c1 => ?_⟩
      · rw [if_neg (fun q => c3 q.2.2), if_neg (fun q => q.1 (by rw [c1]; decide))]
        exact ⟨fun _ => rfl, fun c4 => absurd (by rw [c1]; decide) c4⟩
      · rw [if_neg (fun q => c2 q.2.1), if_neg (fun q => q.1 (by rw [c1]; decide))]
        exact ⟨fun _ => rfl, fun c4 => absurd (by rw [c1]; decide) c4⟩
      · rw [if_neg (fun q => c1 q.1)]
        refine ⟨fun c4 => by rw [if_neg (fun q => q.1 c4)], fun c4 => ⟨fun c5 => by rw [if_neg (fun q => q.2 c5)], fun c5 v6 e6 => ⟨rfl, rfl, b5, by rw [if_pos ⟨c4, c5⟩, e6]⟩⟩⟩
    · rw [Int32.lt_iff_toInt_lt] at c; omega

set_option maxRecDepth 65536 in
set_option maxHeartbeats 40000000 in
theorem c3 (l : Launch) (Z : State) (a0 : Array Value) (hw : ∀ d ∈ tables_1, d.before a0 Z = true) (n0 : Nat) (h : Heap) (Zs : n0 ≤ h.size) (a0_ : Addr) (p1 : Int32) (p2 : Int32) (p3 : Int32) (L : List Int32) (V_a0_ : Own.VA Z h a0_ .byte (L.map Value.int)) (hL : L.length = 22) (hs : 0 ≤ p1.toInt) (he : p2.toInt ≤ 22) (hp3 : -100 ≤ p3.toInt ∧ p3.toInt ≤ 100) (hle : p1.toInt ≤ p2.toInt) :
    Own.Con l Z n0 (⟨"com/example/debit/debit/csv/DecimalText", "scaled", "([BIII)J"⟩ : MethodName) prog_15_method_7_code 11 (some .long) R3 #[(.ref a0_), (.int p1), (.int p2), (.int p3)] h (fun v h' => h = h' ∧ ∃ w : Int64, v = some (.long w) ∧ w = own_res L p1 p2 p3) := by
  refine Own.Con.enter pn_3 (ef_3 a0_ p1 p2 p3) fun D r => ?_
  have s0 := own_subs (x := p2) (y := p1) (by omega) (by omega) (by omega) (by omega)
  have m1 : (-1 : Int32).toInt = -1 := rfl
  refine w3_0 l Z a0 hw n0 h Zs D a0_ p1 p2 p3 L V_a0_ hL hs he (fun w => w = own_res L p1 p2 p3) (fun y4 y5 y6 y8 => y4 = p2 - p1 ∧ y5 = (-1 : Int32) ∧ y6 = (0 : Int64) ∧ y8 = p1 ∧ own_l1 L p1 p2 p3 (p2 - p1).toInt.toNat p1 (-1) 0 = own_res L p1 p2 p3) (fun y4 y5 y6 y8 sl o q r' => ?_) ?_ r
  · obtain ⟨rfl, rfl, rfl, rfl, q5⟩ := q
    have := own_r30 l Z a0 hw n0 h Zs D a0_ y8 p2 p3 L V_a0_ hL hs he hp3 (by omega) (by omega) (p2 - y8).toInt.toNat (p2 - y8) (-1) 0 y8 sl (by omega) hs rfl ⟨by omega, by omega⟩ o r'
    rw [q5] at this; exact this
  · intro v4 e4
    subst e4
    unfold own_res
    exact ⟨fun c => by rw [if_pos c], fun c => ⟨fun d => by rw [if_neg c, if_pos d], fun d => ⟨rfl, rfl, rfl, rfl, by rw [if_neg c, if_neg d]⟩⟩⟩
theorem own_ex {α : Type} {a : α} {P : α → Prop} : (∃ v, v = a ∧ P v) ↔ P a := ⟨fun ⟨v, e, p⟩ => e ▸ p, fun p => ⟨a, rfl, p⟩⟩
theorem own_pos {x : Int32} (h : (0 : Int32) < x) : x ≠ 0 := fun q => by rw [q, Int32.lt_iff_toInt_lt] at h; omega
theorem own_mkA {len sh hp pp pt dc X : Int32} (e8 : len = ((sh &&& (65535 : Int32)) % (21 : Int32))) (e10 : hp = X) (e11 : pp = (if hp = (0 : Int32) then (-1 : Int32) else (if (0 : Int32) < len then ((pt &&& (2147483647 : Int32)) % len) else (-1 : Int32)))) (e19 : dc = (if pp < (0 : Int32) then len else (len - (1 : Int32)))) : own_at len pp dc := by
  have a := c_and sh 65535 (by decide)
  have b := (c_irem (sh &&& 65535) 21 21 rfl).1 a.1
  have bl : 0 ≤ len.toInt ∧ len.toInt ≤ 20 := by rw [e8, b]; omega
  have m1 : (-1 : Int32).toInt = -1 := rfl
  have z := own_z0
  have bp : -1 ≤ pp.toInt ∧ pp.toInt < len.toInt := by
    rw [e11]; split
    · omega
    · split
      · rename_i c
        rw [Int32.lt_iff_toInt_lt] at c
        have q := c_and pt 2147483647 (by decide)
        have := (c_iremV (pt &&& 2147483647) len).1 q.1 (by omega)
        omega
      · omega
  exact ⟨bl.1, bl.2, bp.1, bp.2, e19⟩
theorem own_mkP {p ps : Int32} (e12 : p = ((ps &&& (31 : Int32)) - (4 : Int32))) : -4 ≤ p.toInt ∧ p.toInt ≤ 27 := by
  have a := c_and ps 31 (by decide)
  have : (31 : Int32).toInt = 31 := rfl; have : (4 : Int32).toInt = 4 := rfl
  have s := own_subs (x := ps &&& 31) (y := 4) (by omega) (by omega) (by omega) (by omega)
  rw [e12]; omega
theorem own_mkE {len pp dc w d p ps : Int32} (hA : own_at len pp dc) (e12 : p = ((ps &&& (31 : Int32)) - (4 : Int32))) (e20 : w = (if pp < (0 : Int32) then len else pp)) (e21 : d = (if pp < (0 : Int32) then (0 : Int32) else ((len - pp) - (1 : Int32)))) : own_ep len pp dc w d p := by
  have hp := own_mkP e12
  obtain ⟨a1, a2, a3, a4, a5⟩ := hA
  have z := own_z0
  refine ⟨⟨a1, a2, a3, a4, a5⟩, fun q => ?_, fun q => ?_, hp⟩
  · have c : pp < (0 : Int32) := by rw [Int32.lt_iff_toInt_lt]; omega
    rw [e20, e21, if_pos c, if_pos c]; exact ⟨rfl, rfl⟩
  · have c : ¬ pp < (0 : Int32) := by rw [Int32.lt_iff_toInt_lt]; omega
    have s := own_subs (x := len) (y := pp) (by omega) (by omega) (by omega) (by omega)
    have s2 := own_sub1 (x := len - pp) (by omega)
    rw [e20, e21, if_neg c, if_neg c]; omega
theorem own_mkJ {jk md cb : Int32} (e18 : jk = (if md = (1 : Int32) then (Own.i2bW cb) else (46 : Int32))) : jk.toInt8.toInt32 = jk := by
  rw [e18]; split
  · exact own_rb _
  · decide
theorem own_off {off sh : Int32} (e9 : off = ((Own.iushrW sh (16 : Int32)) &&& (1 : Int32))) : 0 ≤ off.toInt ∧ off.toInt ≤ 1 := by
  have a := c_and (Own.iushrW sh 16) 1 (by decide)
  rw [e9]; exact a
theorem own_mk3 {len pp dc off sh p ps : Int32} (hA : own_at len pp dc) (e9 : off = ((Own.iushrW sh (16 : Int32)) &&& (1 : Int32))) (e12 : p = ((ps &&& (31 : Int32)) - (4 : Int32))) : 0 ≤ off.toInt ∧ (off + len).toInt ≤ 22 ∧ (-100 ≤ p.toInt ∧ p.toInt ≤ 100) ∧ off.toInt ≤ (off + len).toInt := by
  have o := own_off e9
  have hp := own_mkP e12
  obtain ⟨a1, a2, a3, a4, a5⟩ := hA
  have s := own_adds (x := off) (y := len) (by omega) (by omega) (by omega) (by omega)
  omega
section
variable {len pp dc ij q jk : Int32} {n : Int64}
theorem own_S1b (hj : jk.toInt8.toInt32 = jk) {t w : Int32} (h : S1 t len pp dc n ij q jk w) : nar .byte w = w := by
  show w.toInt8.toInt32 = w
  simp only [S1, own_ex] at h
  by_cases c1 : t < (0 : Int32)
  · rw [h.1 c1]; decide
  · have h := h.2 c1
    by_cases c2 : t < len
    · have h := h.1 c2
      have key : ∀ {k : Int32} {X : Int32}, ((k < (19 : Int32) → w = Own.i2bW X) ∧ (¬ (k < (19 : Int32)) → w = (48 : Int32))) → w.toInt8.toInt32 = w := fun {k X} g => by
        by_cases c : k < (19 : Int32)
        · rw [g.1 c]; exact own_rb _
        · rw [g.2 c]; decide
      by_cases c3 : ij = (0 : Int32)
      · have h := h.1 c3
        by_cases c4 : t = pp
        · rw [h.1 c4]; decide
        · exact key (h.2 c4)
      · have h := h.2 c3
        by_cases c5 : t = q
        · rw [h.1 c5]; exact hj
        · have h := h.2 c5
          by_cases c4 : t = pp
          · rw [h.1 c4]; decide
          · exact key (h.2 c4)
    · rw [h.2 c2]; decide
theorem own_S1q {t w : Int32} (h : S1 t len pp dc n ij q jk w) (h1 : 0 ≤ t.toInt) (h2 : t.toInt < len.toInt) (h3 : ¬ ij = (0 : Int32)) (h4 : t.toInt = q.toInt) : w = jk := by
  have z := own_z0
  exact (((h.2 (by rw [Int32.lt_iff_toInt_lt]; omega)).1 (by rw [Int32.lt_iff_toInt_lt]; omega)).2 h3).1 (Int32.toInt_inj.mp h4)
theorem own_S1p {t w : Int32} (h : S1 t len pp dc n ij q jk w) (h1 : 0 ≤ t.toInt) (h2 : t.toInt < len.toInt) (h3 : ij = (0 : Int32) ∨ t.toInt ≠ q.toInt) (h4 : t.toInt = pp.toInt) : w = (46 : Int32) := by
  have z := own_z0
  have g := (h.2 (by rw [Int32.lt_iff_toInt_lt]; omega)).1 (by rw [Int32.lt_iff_toInt_lt]; omega)
  by_cases c : ij = (0 : Int32)
  · exact (g.1 c).1 (Int32.toInt_inj.mp h4)
  · exact ((g.2 c).2 (fun e => (h3.resolve_left c) (by rw [e]))).1 (Int32.toInt_inj.mp h4)
theorem own_S1d (hA : own_at len pp dc) (hn : 0 ≤ n.toInt) {t w : Int32} (h : S1 t len pp dc n ij q jk w) (h1 : 0 ≤ t.toInt) (h2 : t.toInt < len.toInt) (h3 : ij = (0 : Int32)) (h4 : t.toInt ≠ pp.toInt) {r : Nat} (hr : (r : Int) = if pp.toInt < 0 then t.toInt else if pp.toInt < t.toInt then t.toInt - 1 else t.toInt) : w.toInt = 48 + (((n.toInt.toNat / 10 ^ (dc.toInt.toNat - 1 - r)) % 10 : Nat) : Int) := by
  have z := own_z0
  have g := ((h.2 (by rw [Int32.lt_iff_toInt_lt]; omega)).1 (by rw [Int32.lt_iff_toInt_lt]; omega)).1 h3
  obtain ⟨m, em, v, ev, g⟩ := g.2 (fun e => h4 (by rw [e]))
  have kv := own_kv hA h1 h2 h4 em ev
  have rr := own_rr (pp := pp) h1 em
  have em' : m.toInt = r := by rw [hr]; split <;> (try split) <;> omega
  have ek : dc.toInt.toNat - 1 - r = v.toInt.toNat := by omega
  rw [ek]
  have nlt := n.toInt_lt
  have l19 : (19 : Int32).toInt = 19 := rfl
  by_cases c : v < (19 : Int32)
  · have gw := g.1 c
    rw [Int32.lt_iff_toInt_lt] at c
    have p10 := own_p10i (k := v) (by omega) (by omega)
    have pp0 : 0 < (10 : Nat) ^ v.toInt.toNat := Nat.pow_pos (by decide)
    have dv := (c_ldiv n (own_p10 v) _ p10 (fun e => by rw [e] at p10; have : (-1 : Int64).toInt = -1 := rfl; omega)).1 hn
    have eN : n.toInt = ((n.toInt.toNat : Nat) : Int) := by omega
    rw [eN, ← Int.natCast_ediv] at dv
    have rm := (c_lrem (n / own_p10 v) 10 10 rfl).1 (by rw [dv]; exact Int.natCast_nonneg _)
    have e2 : (Own.lremW (n / own_p10 v) (10 : Int64)).toInt = (((n.toInt.toNat / 10 ^ v.toInt.toNat) % 10 : Nat) : Int) := by
      show ((n / own_p10 v) - ((n / own_p10 v) / (10 : Int64)) * (10 : Int64)).toInt = _
      rw [rm, dv, Int.natCast_emod]; rfl
    have e3 := c_l2i (Own.lremW (n / own_p10 v) (10 : Int64))
    have e4 : (Own.lremW (n / own_p10 v) (10 : Int64)).toInt32.toInt = (((n.toInt.toNat / 10 ^ v.toInt.toNat) % 10 : Nat) : Int) := by
      have := (Own.lremW (n / own_p10 v) (10 : Int64)).toInt32.toInt_lt; have := (Own.lremW (n / own_p10 v) (10 : Int64)).toInt32.le_toInt
      omega
    have l48 : (48 : Int32).toInt = 48 := rfl
    have e5 := own_adds (x := 48) (y := (Own.lremW (n / own_p10 v) (10 : Int64)).toInt32) (by omega) (by omega) (by omega) (by omega)
    have e6 := c_i2b ((48 : Int32) + (Own.lremW (n / own_p10 v) (10 : Int64)).toInt32)
    rw [gw]
    show ((48 : Int32) + (Own.lremW (n / own_p10 v) (10 : Int64)).toInt32).toInt8.toInt32.toInt = _
    omega
  · rw [Int32.lt_iff_toInt_lt] at c
    have ev19 : v.toInt.toNat = 19 := by omega
    have : n.toInt.toNat / 10 ^ 19 = 0 := Nat.div_eq_of_lt (by omega)
    rw [g.2 (by rw [Int32.lt_iff_toInt_lt]; exact c), ev19, this]; rfl
end
theorem own_i64 {x y : Int64} (h : (x.toInt - y.toInt) % 18446744073709551616 = 0) : x = y := by
  apply Int64.toInt_inj.mp
  have := x.toInt_lt; have := x.le_toInt; have := y.toInt_lt; have := y.le_toInt
  omega
def own_n (a : Nat) : Int64 := Int64.ofInt (a : Int)
theorem own_ni (a : Nat) : ((own_n a).toInt - (a : Int)) % 18446744073709551616 = 0 := by
  unfold own_n; rw [Int64.toInt_ofInt]; exact bm64 _
theorem own_n10 (a : Nat) {c : Int32} {d : Nat} (hd : d < 10) (hc : c.toInt = 48 + (d : Int)) : (own_n a * (10 : Int64)) + (c - (48 : Int32)).toInt64 = own_n (a * 10 + d) := by
  apply own_i64
  have l48 : (48 : Int32).toInt = 48 := rfl
  have s := own_subs (x := c) (y := 48) (by omega) (by omega) (by omega) (by omega)
  have e1 := c_ladd (own_n a * 10) (c - 48).toInt64
  have e2 := c_lmul (own_n a) 10
  have l10 : (10 : Int64).toInt = 10 := rfl
  have e3 := own_ni a; have e4 := own_ni (a * 10 + d)
  rw [c_i2l] at e1
  rw [l10] at e2
  omega
theorem own_nm (a : Nat) : own_n a * (10 : Int64) = own_n (a * 10) := by
  apply own_i64
  have e2 := c_lmul (own_n a) 10
  have l10 : (10 : Int64).toInt = 10 := rfl
  have e3 := own_ni a; have e4 := own_ni (a * 10)
  rw [l10] at e2
  omega
theorem own_l2n : ∀ (m a : Nat), own_l2 m (own_n a) = own_n (a * 10 ^ m) := by
  intro m
  induction m with
  | zero => intro a; simp [own_l2]
  | succ m ih => intro a; rw [own_l2, own_nm, ih, Nat.pow_succ, Nat.mul_assoc, Nat.mul_comm 10]
def own_V (N j K : Nat) : Nat := (N / 10 ^ K) % 10 ^ j
theorem own_Vs (N j K : Nat) : own_V N (j + 1) K = own_V N j (K + 1) * 10 + (N / 10 ^ K) % 10 := by
  unfold own_V
  rw [Nat.pow_succ 10 j, Nat.mul_comm (10 ^ j) 10, Nat.mod_mul, Nat.pow_succ 10 K, ← Nat.div_div_eq_div_mul]
  omega

theorem own_all {len pp dc ij q jk off : Int32} {n : Int64} {y0 y1 y2 y3 y4 y5 y6 y7 y8 y9 y10 y11 y12 y13 y14 y15 y16 y17 y18 y19 y20 y21 : Int32} (hj : jk.toInt8.toInt32 = jk) (h0 : S1 ((0 : Int32) - off) len pp dc n ij q jk y0) (h1 : S1 ((1 : Int32) - off) len pp dc n ij q jk y1) (h2 : S1 ((2 : Int32) - off) len pp dc n ij q jk y2) (h3 : S1 ((3 : Int32) - off) len pp dc n ij q jk y3) (h4 : S1 ((4 : Int32) - off) len pp dc n ij q jk y4) (h5 : S1 ((5 : Int32) - off) len pp dc n ij q jk y5) (h6 : S1 ((6 : Int32) - off) len pp dc n ij q jk y6) (h7 : S1 ((7 : Int32) - off) len pp dc n ij q jk y7) (h8 : S1 ((8 : Int32) - off) len pp dc n ij q jk y8) (h9 : S1 ((9 : Int32) - off) len pp dc n ij q jk y9) (h10 : S1 ((10 : Int32) - off) len pp dc n ij q jk y10) (h11 : S1 ((11 : Int32) - off) len pp dc n ij q jk y11) (h12 : S1 ((12 : Int32) - off) len pp dc n ij q jk y12) (h13 : S1 ((13 : Int32) - off) len pp dc n ij q jk y13) (h14 : S1 ((14 : Int32) - off) len pp dc n ij q jk y14) (h15 : S1 ((15 : Int32) - off) len pp dc n ij q jk y15) (h16 : S1 ((16 : Int32) - off) len pp dc n ij q jk y16) (h17 : S1 ((17 : Int32) - off) len pp dc n ij q jk y17) (h18 : S1 ((18 : Int32) - off) len pp dc n ij q jk y18) (h19 : S1 ((19 : Int32) - off) len pp dc n ij q jk y19) (h20 : S1 ((20 : Int32) - off) len pp dc n ij q jk y20) (h21 : S1 ((21 : Int32) - off) len pp dc n ij q jk y21) : ∀ i : Int32, 0 ≤ i.toInt → i.toInt < 22 → S1 (i - off) len pp dc n ij q jk (Own.ga [(nar .byte y0), (nar .byte y1), (nar .byte y2), (nar .byte y3), (nar .byte y4), (nar .byte y5), (nar .byte y6), (nar .byte y7), (nar .byte y8), (nar .byte y9), (nar .byte y10), (nar .byte y11), (nar .byte y12), (nar .byte y13), (nar .byte y14), (nar .byte y15), (nar .byte y16), (nar .byte y17), (nar .byte y18), (nar .byte y19), (nar .byte y20), (nar .byte y21)] i) := by
  intro i a b
  have c : i.toInt = 0 ∨ i.toInt = 1 ∨ i.toInt = 2 ∨ i.toInt = 3 ∨ i.toInt = 4 ∨ i.toInt = 5 ∨ i.toInt = 6 ∨ i.toInt = 7 ∨ i.toInt = 8 ∨ i.toInt = 9 ∨ i.toInt = 10 ∨ i.toInt = 11 ∨ i.toInt = 12 ∨ i.toInt = 13 ∨ i.toInt = 14 ∨ i.toInt = 15 ∨ i.toInt = 16 ∨ i.toInt = 17 ∨ i.toInt = 18 ∨ i.toInt = 19 ∨ i.toInt = 20 ∨ i.toInt = 21 := by omega
  rcases c with c | c | c | c | c | c | c | c | c | c | c | c | c | c | c | c | c | c | c | c | c | c
  · obtain rfl : i = (0 : Int32) := Int32.toInt_inj.mp (c.trans rfl)
    show S1 _ _ _ _ _ _ _ _ (nar .byte y0)
    rw [own_S1b hj h0]; exact h0
  · obtain rfl : i = (1 : Int32) := Int32.toInt_inj.mp (c.trans rfl)
    show S1 _ _ _ _ _ _ _ _ (nar .byte y1)
    rw [own_S1b hj h1]; exact h1
  · obtain rfl : i = (2 : Int32) := Int32.toInt_inj.mp (c.trans rfl)
    show S1 _ _ _ _ _ _ _ _ (nar .byte y2)
    rw [own_S1b hj h2]; exact h2
  · obtain rfl : i = (3 : Int32) := Int32.toInt_inj.mp (c.trans rfl)
    show S1 _ _ _ _ _ _ _ _ (nar .byte y3)
    rw [own_S1b hj h3]; exact h3
  · obtain rfl : i = (4 : Int32) := Int32.toInt_inj.mp (c.trans rfl)
    show S1 _ _ _ _ _ _ _ _ (nar .byte y4)
    rw [own_S1b hj h4]; exact h4
  · obtain rfl : i = (5 : Int32) := Int32.toInt_inj.mp (c.trans rfl)
    show S1 _ _ _ _ _ _ _ _ (nar .byte y5)
    rw [own_S1b hj h5]; exact h5
  · obtain rfl : i = (6 : Int32) := Int32.toInt_inj.mp (c.trans rfl)
    show S1 _ _ _ _ _ _ _ _ (nar .byte y6)
    rw [own_S1b hj h6]; exact h6
  · obtain rfl : i = (7 : Int32) := Int32.toInt_inj.mp (c.trans rfl)
    show S1 _ _ _ _ _ _ _ _ (nar .byte y7)
    rw [own_S1b hj h7]; exact h7
  · obtain rfl : i = (8 : Int32) := Int32.toInt_inj.mp (c.trans rfl)
    show S1 _ _ _ _ _ _ _ _ (nar .byte y8)
    rw [own_S1b hj h8]; exact h8
  · obtain rfl : i = (9 : Int32) := Int32.toInt_inj.mp (c.trans rfl)
    show S1 _ _ _ _ _ _ _ _ (nar .byte y9)
    rw [own_S1b hj h9]; exact h9
  · obtain rfl : i = (10 : Int32) := Int32.toInt_inj.mp (c.trans rfl)
    show S1 _ _ _ _ _ _ _ _ (nar .byte y10)
    rw [own_S1b hj h10]; exact h10
  · obtain rfl : i = (11 : Int32) := Int32.toInt_inj.mp (c.trans rfl)
    show S1 _ _ _ _ _ _ _ _ (nar .byte y11)
    rw [own_S1b hj h11]; exact h11
  · obtain rfl : i = (12 : Int32) := Int32.toInt_inj.mp (c.trans rfl)
    show S1 _ _ _ _ _ _ _ _ (nar .byte y12)
    rw [own_S1b hj h12]; exact h12
  · obtain rfl : i = (13 : Int32) := Int32.toInt_inj.mp (c.trans rfl)
    show S1 _ _ _ _ _ _ _ _ (nar .byte y13)
    rw [own_S1b hj h13]; exact h13
  · obtain rfl : i = (14 : Int32) := Int32.toInt_inj.mp (c.trans rfl)
    show S1 _ _ _ _ _ _ _ _ (nar .byte y14)
    rw [own_S1b hj h14]; exact h14
  · obtain rfl : i = (15 : Int32) := Int32.toInt_inj.mp (c.trans rfl)
    show S1 _ _ _ _ _ _ _ _ (nar .byte y15)
    rw [own_S1b hj h15]; exact h15
  · obtain rfl : i = (16 : Int32) := Int32.toInt_inj.mp (c.trans rfl)
    show S1 _ _ _ _ _ _ _ _ (nar .byte y16)
    rw [own_S1b hj h16]; exact h16
  · obtain rfl : i = (17 : Int32) := Int32.toInt_inj.mp (c.trans rfl)
    show S1 _ _ _ _ _ _ _ _ (nar .byte y17)
    rw [own_S1b hj h17]; exact h17
  · obtain rfl : i = (18 : Int32) := Int32.toInt_inj.mp (c.trans rfl)
    show S1 _ _ _ _ _ _ _ _ (nar .byte y18)
    rw [own_S1b hj h18]; exact h18
  · obtain rfl : i = (19 : Int32) := Int32.toInt_inj.mp (c.trans rfl)
    show S1 _ _ _ _ _ _ _ _ (nar .byte y19)
    rw [own_S1b hj h19]; exact h19
  · obtain rfl : i = (20 : Int32) := Int32.toInt_inj.mp (c.trans rfl)
    show S1 _ _ _ _ _ _ _ _ (nar .byte y20)
    rw [own_S1b hj h20]; exact h20
  · obtain rfl : i = (21 : Int32) := Int32.toInt_inj.mp (c.trans rfl)
    show S1 _ _ _ _ _ _ _ _ (nar .byte y21)
    rw [own_S1b hj h21]; exact h21

theorem own_seg {L : List Int32} {p1 p2 p3 : Int32} {N dc : Nat} {off : Int} (ho : 0 ≤ off ∧ off ≤ 1) {pt : Int32} : ∀ (m r t j : Nat) (i i2 : Int32), i.toInt = off + t → i2.toInt = off + t + m → (∀ (s : Nat) (i' : Int32), t ≤ s → s < t + m → i'.toInt = off + s → (Own.ga L i').toInt = 48 + (((N / 10 ^ (dc - 1 - (j + (s - t)))) % 10 : Nat) : Int)) → j + m ≤ dc → t + m ≤ 20 → own_l1 L p1 p2 p3 (m + r) i pt (own_n (own_V N j (dc - j))) = own_l1 L p1 p2 p3 r i2 pt (own_n (own_V N (j + m) (dc - (j + m)))) := by
  intro m
  induction m with
  | zero =>
    intro r t j i i2 e1 e2 h hj ht
    obtain rfl : i = i2 := Int32.toInt_inj.mp (by omega)
    rw [Nat.zero_add, Nat.add_zero]
  | succ m ih =>
    intro r t j i i2 e1 e2 h hj ht
    have b := h t i (by omega) (by omega) e1
    rw [Nat.sub_self, Nat.add_zero] at b
    have d10 : (N / 10 ^ (dc - 1 - j)) % 10 < 10 := Nat.mod_lt _ (by decide)
    have s1 := own_adds1 (x := i) (by omega) (by omega)
    have l46 : (46 : Int32).toInt = 46 := rfl; have l48 : (48 : Int32).toInt = 48 := rfl; have l57 : (57 : Int32).toInt = 57 := rfl
    rw [show m + 1 + r = (m + r) + 1 by omega, own_l1, if_neg (fun q => by rw [q.1] at b; omega), if_pos ⟨by rw [Int32.lt_iff_toInt_lt]; omega, by rw [Int32.lt_iff_toInt_lt]; omega⟩, own_n10 _ d10 b]
    have ev : own_V N j (dc - j) * 10 + (N / 10 ^ (dc - 1 - j)) % 10 = own_V N (j + 1) (dc - (j + 1)) := by
      rw [own_Vs, show dc - (j + 1) + 1 = dc - j by omega, show dc - (j + 1) = dc - 1 - j by omega]
    rw [ev]
    have := ih r (t + 1) (j + 1) (i + 1) i2 (by omega) (by omega) (fun s i' q1 q2 q3 => by rw [h s i' (by omega) (by omega) q3, show j + (s - t) = j + 1 + (s - (t + 1)) by omega]) (by omega) (by omega)
    rw [this, show j + 1 + m = j + (m + 1) by omega]
theorem own_bad1 {L : List Int32} {p1 p2 p3 : Int32} {g : Int} (hg : g ≤ 50) (hbad : ∀ i : Int32, i.toInt = g → Own.ga L i ≠ (46 : Int32) ∧ (Own.ga L i < (48 : Int32) ∨ (57 : Int32) < Own.ga L i)) : ∀ (m : Nat) (i pt : Int32) (v : Int64), 0 ≤ i.toInt → i.toInt ≤ g → g < i.toInt + m → own_l1 L p1 p2 p3 m i pt v = -1 := by
  intro m
  induction m with
  | zero => intro i pt v h0 h1 h2; omega
  | succ m ih =>
    intro i pt v h0 h1 h2
    have s1 := own_adds1 (x := i) (by omega) (by omega)
    rw [own_l1]
    by_cases c : i.toInt = g
    · have b := hbad i c
      rw [if_neg (fun q => b.1 q.1), if_neg (fun q => b.2.elim q.1 q.2)]
    · split
      · exact ih _ _ _ (by omega) (by omega) (by omega)
      · split
        · exact ih _ _ _ (by omega) (by omega) (by omega)
        · rfl
theorem own_bad2 {L : List Int32} {p1 p2 p3 : Int32} {g : Int} (hg : g ≤ 50) (hbad : ∀ i : Int32, i.toInt = g → Own.ga L i = (46 : Int32)) : ∀ (m : Nat) (i pt : Int32) (v : Int64), 0 ≤ i.toInt → i.toInt ≤ g → g < i.toInt + m → ¬ pt < (0 : Int32) → own_l1 L p1 p2 p3 m i pt v = -1 := by
  intro m
  induction m with
  | zero => intro i pt v h0 h1 h2; omega
  | succ m ih =>
    intro i pt v h0 h1 h2 hp
    have s1 := own_adds1 (x := i) (by omega) (by omega)
    rw [own_l1, if_neg (fun q => hp q.2.1)]
    by_cases c : i.toInt = g
    · rw [if_neg (fun q => q.1 (by rw [hbad i c]; decide))]
    · split
      · exact ih _ _ _ (by omega) (by omega) (by omega) hp
      · rfl
theorem own_bad3 {L : List Int32} {p1 p2 p3 : Int32} {f g : Int} (hf : f < g) (hg : g ≤ 50) (hb1 : ∀ i : Int32, i.toInt = f → Own.ga L i = (46 : Int32)) (hbad : ∀ i : Int32, i.toInt = g → Own.ga L i = (46 : Int32)) : ∀ (m : Nat) (i pt : Int32) (v : Int64), 0 ≤ i.toInt → i.toInt ≤ f → g < i.toInt + m → own_l1 L p1 p2 p3 m i pt v = -1 := by
  intro m
  induction m with
  | zero => intro i pt v h0 h1 h2; omega
  | succ m ih =>
    intro i pt v h0 h1 h2
    have s1 := own_adds1 (x := i) (by omega) (by omega)
    have z := own_z0
    rw [own_l1]
    by_cases c : i.toInt = f
    · split
      · exact own_bad2 hg hbad m _ _ _ (by omega) (by omega) (by omega) (by rw [Int32.lt_iff_toInt_lt]; omega)
      · rw [if_neg (fun q => q.1 (by rw [hb1 i c]; decide))]
    · split
      · exact ih _ _ _ (by omega) (by omega) (by omega)
      · split
        · exact ih _ _ _ (by omega) (by omega) (by omega)
        · rfl
theorem own_byte {P : Int32 → Prop} (hP : ∀ k : Fin 256, P (Int32.ofInt (k.val : Int))) {b : Int32} (h0 : 0 ≤ b.toInt) (h1 : b.toInt ≤ 255) : P b := by
  have e : Int32.ofInt ((b.toInt.toNat : Nat) : Int) = b := by rw [Int.toNat_of_nonneg h0]; exact Int32.ofInt_toInt b
  have := hP ⟨b.toInt.toNat, by omega⟩
  rwa [e] at this
theorem own_p21 {off len : Int32} : (off + len) - off = len := by
  apply Int32.toInt_inj.mp
  have := c_iadd off len; have := c_isub (off + len) off; have := (off + len - off).toInt_lt; have := (off + len - off).le_toInt; have := len.toInt_lt; have := len.le_toInt
  omega
theorem own_inj {inj len md pl pp q : Int32} (e17 : inj = (if (0 : Int32) < len then (if md = (1 : Int32) then (if pl = (0 : Int32) then (1 : Int32) else (if md = (2 : Int32) then (if pp < (0 : Int32) then (0 : Int32) else (if q = pp then (0 : Int32) else (1 : Int32))) else (0 : Int32))) else (if md = (2 : Int32) then (if pp < (0 : Int32) then (0 : Int32) else (if q = pp then (0 : Int32) else (1 : Int32))) else (0 : Int32))) else (0 : Int32))) (h : ¬ inj = (0 : Int32)) : (0 : Int32) < len ∧ ((md = (1 : Int32) ∧ pl = (0 : Int32)) ∨ (¬ md = (1 : Int32) ∧ ¬ pp < (0 : Int32) ∧ ¬ q = pp)) := by
  by_cases a : (0 : Int32) < len
  · rw [if_pos a] at e17
    refine ⟨a, ?_⟩
    by_cases b : md = (1 : Int32)
    · rw [if_pos b] at e17
      by_cases c : pl = (0 : Int32)
      · exact Or.inl ⟨b, c⟩
      · rw [if_neg c, if_neg (by rw [b]; decide)] at e17; exact absurd e17 h
    · rw [if_neg b] at e17
      by_cases c : md = (2 : Int32)
      · rw [if_pos c] at e17
        by_cases d : pp < (0 : Int32)
        · rw [if_pos d] at e17; exact absurd e17 h
        · rw [if_neg d] at e17
          by_cases f : q = pp
          · rw [if_pos f] at e17; exact absurd e17 h
          · exact Or.inr ⟨b, d, f⟩
      · rw [if_neg c] at e17; exact absurd e17 h
  · rw [if_neg a] at e17; exact absurd e17 h
theorem own_bad {L : List Int32} {len pp dc w d p inj q jk off sh md ij cb pl X : Int32} {n dg y : Int64} (hA : own_at len pp dc) (hE : own_ep len pp dc w d p) (hj : jk.toInt8.toInt32 = jk) (e9 : off = ((Own.iushrW sh (16 : Int32)) &&& (1 : Int32))) (hb : ∀ i : Int32, 0 ≤ i.toInt → i.toInt < 22 → S1 (i - off) len pp dc n inj q jk (Own.ga L i)) (ey : y = own_res L off (off + len) p)
    (e6 : n = (dg &&& (9223372036854775807 : Int64))) (e13 : md = (ij &&& (3 : Int32))) (e14 : q = (if (0 : Int32) < len then (X % len) else (0 : Int32))) (e15 : cb = ((Own.iushrW ij (18 : Int32)) &&& (255 : Int32))) (e16 : pl = (if cb < (48 : Int32) then (if cb = (46 : Int32) then (1 : Int32) else (0 : Int32)) else (if (57 : Int32) < cb then (if cb = (46 : Int32) then (1 : Int32) else (0 : Int32)) else (1 : Int32))))
    (e17 : inj = (if (0 : Int32) < len then (if md = (1 : Int32) then (if pl = (0 : Int32) then (1 : Int32) else (if md = (2 : Int32) then (if pp < (0 : Int32) then (0 : Int32) else (if q = pp then (0 : Int32) else (1 : Int32))) else (0 : Int32))) else (if md = (2 : Int32) then (if pp < (0 : Int32) then (0 : Int32) else (if q = pp then (0 : Int32) else (1 : Int32))) else (0 : Int32))) else (0 : Int32))) (e18 : jk = (if md = (1 : Int32) then (Own.i2bW cb) else (46 : Int32))) (hX : 0 ≤ X.toInt) (hi : ¬ inj = (0 : Int32)) : y = (-1 : Int64) := by
  obtain ⟨hl, hc⟩ := own_inj e17 hi
  have o := own_off e9
  have z := own_z0
  obtain ⟨a1, a2, a3, a4, -⟩ := hA
  have hl' := hl
  rw [Int32.lt_iff_toInt_lt] at hl'
  have bq : 0 ≤ q.toInt ∧ q.toInt < len.toInt := by
    rw [e14, if_pos hl]
    have := (c_iremV X len).1 hX (by omega)
    omega
  have sub : ∀ i : Int32, 0 ≤ i.toInt → i.toInt < 22 → (i - off).toInt = i.toInt - off.toInt := fun i h1 h2 => own_subs (by omega) (by omega) (by omega) (by omega)
  have atq : ∀ i : Int32, i.toInt = off.toInt + q.toInt → Own.ga L i = jk := fun i h => by
    have s := sub i (by omega) (by omega)
    exact own_S1q (hb i (by omega) (by omega)) (by omega) (by omega) hi (by omega)
  rw [ey]
  unfold own_res
  rw [own_p21]
  split
  · rfl
  · split
    · rfl
    · rcases hc with ⟨h1, h2⟩ | ⟨h1, h2, h3⟩
      · rw [if_pos h1] at e18
        have bc := c_and (Own.iushrW ij 18) 255 (by decide)
        rw [← e15] at bc
        have fin := own_byte (P := fun cb => (if cb < (48 : Int32) then (if cb = (46 : Int32) then (1 : Int32) else (0 : Int32)) else (if (57 : Int32) < cb then (if cb = (46 : Int32) then (1 : Int32) else (0 : Int32)) else (1 : Int32))) = 0 → Own.i2bW cb ≠ (46 : Int32) ∧ (Own.i2bW cb < (48 : Int32) ∨ (57 : Int32) < Own.i2bW cb)) (by decide +kernel) bc.1 bc.2 (by rw [← e16]; exact h2)
        exact own_bad1 (g := off.toInt + q.toInt) (by omega) (fun i h => by rw [atq i h, e18]; exact fin) _ _ _ _ (by omega) (by omega) (by omega)
      · rw [if_neg h1] at e18
        rw [Int32.lt_iff_toInt_lt] at h2
        have ne : q.toInt ≠ pp.toInt := fun e => h3 (Int32.toInt_inj.mp e)
        have atp : ∀ i : Int32, i.toInt = off.toInt + pp.toInt → Own.ga L i = (46 : Int32) := fun i h => by
          have s := sub i (by omega) (by omega)
          exact own_S1p (hb i (by omega) (by omega)) (by omega) (by omega) (Or.inr (by omega)) (by omega)
        have atq' : ∀ i : Int32, i.toInt = off.toInt + q.toInt → Own.ga L i = (46 : Int32) := fun i h => by rw [atq i h, e18]
        by_cases c : q.toInt < pp.toInt
        · exact own_bad3 (f := off.toInt + q.toInt) (g := off.toInt + pp.toInt) (by omega) (by omega) atq' atp _ _ _ _ (by omega) (by omega) (by omega)
        · exact own_bad3 (f := off.toInt + pp.toInt) (g := off.toInt + q.toInt) (by omega) (by omega) atp atq' _ _ _ _ (by omega) (by omega) (by omega)
theorem own_val {len pp dc w d p : Int32} {n : Int64} (hn : 0 ≤ n.toInt) (hE : own_ep len pp dc w d p) (h1 : ¬ len = (0 : Int32)) (h2 : ¬ (19 : Int32) < len) (h3 : ¬ pp = (0 : Int32)) (h5 : ¬ p < d) (h6 : ¬ (18 : Int32) < (w + p)) : (Own.lremW n (own_p10 dc)) * (own_p10 (p - d)) = own_n ((n.toInt.toNat % 10 ^ dc.toInt.toNat) * 10 ^ (p.toInt - d.toInt).toNat) := by
  obtain ⟨⟨b1, b2⟩, b3, b4, b5⟩ := own_e12 hE h1 h2 h3 h5 h6
  have p1 := own_p10i (k := dc) b1 b2
  have p2 := own_p10i (k := p - d) (by omega) (by omega)
  have rm := (c_lrem n (own_p10 dc) _ p1).1 hn
  have eN : n.toInt = ((n.toInt.toNat : Nat) : Int) := by omega
  rw [eN, ← Int.natCast_emod] at rm
  rw [b3] at p2
  apply own_i64
  have e := c_lmul (Own.lremW n (own_p10 dc)) (own_p10 (p - d))
  have e' : (Own.lremW n (own_p10 dc)).toInt = ((n.toInt.toNat % 10 ^ dc.toInt.toNat : Nat) : Int) := rm
  rw [e', p2, ← Int.natCast_mul] at e
  have f := own_ni ((n.toInt.toNat % 10 ^ dc.toInt.toNat) * 10 ^ (p.toInt - d.toInt).toNat)
  omega
theorem own_V0 (N K : Nat) : own_n (own_V N 0 K) = (0 : Int64) := by
  have : own_V N 0 K = 0 := by unfold own_V; rw [Nat.pow_zero, Nat.mod_one]
  rw [this]; decide
theorem own_Ve (N j : Nat) : own_V N j (j - j) = N % 10 ^ j := by unfold own_V; rw [Nat.sub_self, Nat.pow_zero, Nat.div_one]
theorem own_good {L : List Int32} {len pp dc w d p inj q jk off sh : Int32} {n dg y ex : Int64} (hA : own_at len pp dc) (hE : own_ep len pp dc w d p) (hj : jk.toInt8.toInt32 = jk) (e9 : off = ((Own.iushrW sh (16 : Int32)) &&& (1 : Int32))) (hb : ∀ i : Int32, 0 ≤ i.toInt → i.toInt < 22 → S1 (i - off) len pp dc n inj q jk (Own.ga L i)) (ey : y = own_res L off (off + len) p)
    (e6 : n = (dg &&& (9223372036854775807 : Int64))) (hi : inj = (0 : Int32)) (e25 : S4 len pp dc w d p n ex) : y = ex := by
  have hn : 0 ≤ n.toInt := by rw [e6]; exact (c_andSL dg 9223372036854775807).2.2 (by decide)
  have o := own_off e9
  have z := own_z0
  have dd := own_dc hA
  have hE' := hE
  obtain ⟨-, f1, f2, f3, f4⟩ := hE'
  have hA' := hA
  obtain ⟨a1, a2, a3, a4, -⟩ := hA'
  have sub : ∀ i : Int32, 0 ≤ i.toInt → i.toInt < 22 → (i - off).toInt = i.toInt - off.toInt := fun i h1 h2 => own_subs (by omega) (by omega) (by omega) (by omega)
  have so := own_adds (x := off) (y := len) (by omega) (by omega) (by omega) (by omega)
  have sw := own_adds (x := w) (y := p)
  have m1 : (-1 : Int32).toInt = -1 := rfl
  rw [ey]
  unfold own_res
  rw [own_p21]
  by_cases c1 : len = (0 : Int32)
  · rw [if_pos c1, e25.1 c1]
  · have g := e25.2 c1
    rw [if_neg c1]
    by_cases c2 : (19 : Int32) < len
    · rw [if_pos c2, g.1 c2]
    · have g := g.2 c2
      rw [if_neg c2]
      have n1 : len.toInt ≠ 0 := fun q => c1 (Int32.toInt_inj.mp q)
      by_cases c3 : pp = (0 : Int32)
      · rw [g.1 c3]
        have p0 : pp.toInt = 0 := by rw [c3]; rfl
        obtain ⟨k, hk⟩ : ∃ k, len.toInt.toNat = k + 1 := ⟨len.toInt.toNat - 1, by omega⟩
        have so0 := sub off (by omega) (by omega)
        have b := own_S1p (hb off (by omega) (by omega)) (by omega) (by omega) (Or.inl hi) (by omega)
        rw [hk, own_l1, if_neg (fun q => by have := q.2.2; rw [Int32.lt_iff_toInt_lt] at this; omega), if_neg (fun q => q.1 (by rw [b]; decide))]
      · have g := g.2 c3
        have n3 : pp.toInt ≠ 0 := fun q => c3 (Int32.toInt_inj.mp q)
        by_cases c4 : (0 : Int32) < pp
        · have g := g.1 c4
          rw [Int32.lt_iff_toInt_lt] at c4
          have f := f2 (by omega)
          have d1 := dd.2 (by omega)
          -- the digits ahead of the point
          obtain ⟨i1, hi1⟩ : ∃ i1 : Int32, i1 = off + pp := ⟨_, rfl⟩
          have si1 := own_adds (x := off) (y := pp) (by omega) (by omega) (by omega) (by omega)
          rw [← hi1] at si1
          have seg1 := own_seg (L := L) (p1 := off) (p2 := off + len) (p3 := p) (N := n.toInt.toNat) (dc := dc.toInt.toNat) (off := off.toInt) o (pt := -1) pp.toInt.toNat (len.toInt.toNat - pp.toInt.toNat) 0 0 off i1 (by omega) (by omega) (fun s i' q1 q2 q3 => by
            have s' := sub i' (by omega) (by omega)
            have := own_S1d hA hn (hb i' (by omega) (by omega)) (by omega) (by omega) hi (by omega) (r := s) (by rw [if_neg (by omega), if_neg (by omega)]; omega)
            rw [this, Nat.sub_zero, Nat.zero_add]) (by omega) (by omega)
          rw [show pp.toInt.toNat + (len.toInt.toNat - pp.toInt.toNat) = len.toInt.toNat by omega, own_V0] at seg1
          rw [seg1]
          obtain ⟨k, hk⟩ : ∃ k, len.toInt.toNat - pp.toInt.toNat = k + 1 := ⟨len.toInt.toNat - pp.toInt.toNat - 1, by omega⟩
          have s1 := sub i1 (by omega) (by omega)
          have b := own_S1p (hb i1 (by omega) (by omega)) (by omega) (by omega) (Or.inl hi) (by omega)
          rw [hk, own_l1, if_pos ⟨b, by decide, by rw [Int32.lt_iff_toInt_lt]; omega⟩]
          have si2 := own_adds1 (x := i1) (by omega) (by omega)
          have seg2 := own_seg (L := L) (p1 := off) (p2 := off + len) (p3 := p) (N := n.toInt.toNat) (dc := dc.toInt.toNat) (off := off.toInt) o (pt := i1) k 0 (pp.toInt.toNat + 1) pp.toInt.toNat (i1 + 1) (off + len) (by omega) (by omega) (fun s i' q1 q2 q3 => by
            have s' := sub i' (by omega) (by omega)
            have := own_S1d hA hn (hb i' (by omega) (by omega)) (by omega) (by omega) hi (by omega) (r := s - 1) (by rw [if_neg (by omega), if_pos (by omega)]; omega)
            rw [this, show pp.toInt.toNat + (s - (pp.toInt.toNat + 1)) = s - 1 by omega]) (by omega) (by omega)
          rw [Nat.add_zero] at seg2
          rw [Nat.zero_add, seg2, own_l1, show pp.toInt.toNat + k = dc.toInt.toNat by omega, own_Ve]
          unfold own_fin
          have t1 := own_subs (x := off + len) (y := i1) (by omega) (by omega) (by omega) (by omega)
          have t2 := own_sub1 (x := off + len - i1) (by omega)
          have hd : off + len - i1 - 1 = d := Int32.toInt_inj.mp (by omega)
          have hw : i1 - off = w := Int32.toInt_inj.mp (by omega)
          rw [hd, hw, if_neg (by rw [Int32.lt_iff_toInt_lt]; omega)]
          by_cases c5 : d = (0 : Int32)
          · rw [if_pos c5, g.1 c5]
          · have g := g.2 c5
            rw [if_neg c5]
            by_cases c6 : p < d
            · rw [if_pos c6, g.1 c6]
            · have g := g.2 c6
              rw [if_neg c6]
              by_cases c7 : (18 : Int32) < w + p
              · rw [if_pos c7, g.1 c7]
              · rw [if_neg c7, g.2 c7, own_val hn hE c1 c2 c3 c6 c7, own_l2n]
        · have g := g.2 c4
          rw [Int32.lt_iff_toInt_lt] at c4
          have f := f1 (by omega)
          have d1 := dd.1 (by omega)
          have seg1 := own_seg (L := L) (p1 := off) (p2 := off + len) (p3 := p) (N := n.toInt.toNat) (dc := dc.toInt.toNat) (off := off.toInt) o (pt := -1) len.toInt.toNat 0 0 0 off (off + len) (by omega) (by omega) (fun s i' q1 q2 q3 => by
            have s' := sub i' (by omega) (by omega)
            have := own_S1d hA hn (hb i' (by omega) (by omega)) (by omega) (by omega) hi (by omega) (r := s) (by rw [if_pos (by omega)]; omega)
            rw [this, Nat.sub_zero, Nat.zero_add]) (by omega) (by omega)
          rw [own_V0, Nat.add_zero, Nat.zero_add, show len.toInt.toNat = dc.toInt.toNat by omega, own_Ve] at seg1
          rw [show len.toInt.toNat = dc.toInt.toNat by omega, seg1, own_l1]
          unfold own_fin
          have hd : d = 0 := Int32.toInt_inj.mp (by omega)
          have hw : w = len := Int32.toInt_inj.mp (by omega)
          rw [own_p21, if_pos (by decide)]
          by_cases c6 : p < d
          · rw [g.1 c6]
            rw [hd] at c6
            rw [if_pos c6]
          · have g := g.2 c6
            have c6' : ¬ p < (0 : Int32) := by rw [hd] at c6; exact c6
            rw [if_neg c6']
            by_cases c7 : (18 : Int32) < w + p
            · rw [g.1 c7]
              rw [hw] at c7
              rw [if_pos c7]
            · have c7' : ¬ (18 : Int32) < len + p := by rw [hw] at c7; exact c7
              rw [if_neg c7', g.2 c7, own_val hn hE c1 c2 c3 c6 c7, own_l2n, f.2, Int.sub_zero]
theorem own_xn (x : Int32) : 0 ≤ (x &&& (65535 : Int32)).toInt := (c_and x 65535 (by decide)).1

theorem pd_0_0 : parseMethodDescriptor "(IIIIJZIB)B" = some ⟨[.int, .int, .int, .int, .long, .boolean, .int, .byte], some .byte⟩ := by decide +kernel
theorem pd_0_1 : parseMethodDescriptor "([BIII)J" = some ⟨[(.array .byte), .int, .int, .int], some .long⟩ := by decide +kernel
theorem pd_0_2 : parseMethodDescriptor "(IIIIIIJ)J" = some ⟨[.int, .int, .int, .int, .int, .int, .long], some .long⟩ := by decide +kernel
theorem pn_0 : plainFor x = true := plainFor_of_name (by first | (simp [plainName, overriddenIn, x]; done) | decide +kernel)
theorem ef_0 (dg : Int64) (sh : Int32) (pt : Int32) (ps : Int32) (ij_ : Int32) (m : MethodId) : entryFrame m #[(.long dg), (.int sh), (.int pt), (.int ps), (.int ij_)] maxLocals = mkF m 0 #[.val (.long dg), .second, .val (.int sh), .val (.int pt), .val (.int ps), .val (.int ij_), .unset, .unset, .unset, .unset, .unset, .unset, .unset, .unset, .unset, .unset, .unset, .unset, .unset, .unset, .unset, .unset, .unset, .unset, .unset, .unset, .unset] [] := by first | (simp [entryFrame, mkF, argsToLocals, Value.category, maxLocals]; done) | rfl
abbrev R0 : Room := room_1
abbrev A0 (l : Launch) (Z : State) (n0 : Nat) (D : Own.Dyn) := Own.Rch l Z n0 R0 x code maxLocals ret D
set_option maxRecDepth 65536 in
set_option maxHeartbeats 40000000 in
theorem c0 (l : Launch) (Z : State) (a0 : Array Value) (hw : ∀ d ∈ tables_1, d.before a0 Z = true) (n0 : Nat) (h : Heap) (Zs : n0 ≤ h.size) (dg : Int64) (sh : Int32) (pt : Int32) (ps : Int32) (ij_ : Int32) :
    Own.Con l Z n0 x code maxLocals ret R0 #[(.long dg), (.int sh), (.int pt), (.int ps), (.int ij_)] h (fun v h' => v = some (.int 1)) := by
  refine Own.Con.enter pn_0 (ef_0 dg sh pt ps ij_) fun D r => ?_
  replace r : A0 l Z n0 D h 0 0 1 #[.val (.long dg), .second, .val (.int sh), .val (.int pt), .val (.int ps), .val (.int ij_), .unset, .unset, .unset, .unset, .unset, .unset, .unset, .unset, .unset, .unset, .unset, .unset, .unset, .unset, .unset, .unset, .unset, .unset, .unset, .unset, .unset] [(.long dg)] := Own.lloadN r at_0 rfl
  replace r : A0 l Z n0 D h 0 0 4 #[.val (.long dg), .second, .val (.int sh), .val (.int pt), .val (.int ps), .val (.int ij_), .unset, .unset, .unset, .unset, .unset, .unset, .unset, .unset, .unset, .unset, .unset, .unset, .unset, .unset, .unset, .unset, .unset, .unset, .unset, .unset, .unset] [(.long (9223372036854775807 : Int64)), (.long dg)] := Own.ldcJ r at_1 (hw _ (List.mem_of_getElem? (i := 0) rfl))
  replace r : A0 l Z n0 D h 0 0 5 #[.val (.long dg), .second, .val (.int sh), .val (.int pt), .val (.int ps), .val (.int ij_), .unset, .unset, .unset, .unset, .unset, .unset, .unset, .unset, .unset, .unset, .unset, .unset, .unset, .unset, .unset, .unset, .unset, .unset, .unset, .unset, .unset] [(.long (dg &&& (9223372036854775807 : Int64)))] := Own.land r at_4
  obtain ⟨v6_1, e_v6_1⟩ : ∃ z : Int64, z = (dg &&& (9223372036854775807 : Int64)) := ⟨_, rfl⟩
  replace r : A0 l Z n0 D h 0 0 5 #[.val (.long dg), .second, .val (.int sh), .val (.int pt), .val (.int ps), .val (.int ij_), .unset, .unset, .unset, .unset, .unset, .unset, .unset, .unset, .unset, .unset, .unset, .unset, .unset, .unset, .unset, .unset, .unset, .unset, .unset, .unset, .unset] [(.long v6_1)] := by rw [e_v6_1]; exact r
  replace r : A0 l Z n0 D h 0 0 7 #[.val (.long dg), .second, .val (.int sh), .val (.int pt), .val (.int ps), .val (.int ij_), .val (.long v6_1), .second, .unset, .unset, .unset, .unset, .unset, .unset, .unset, .unset, .unset, .unset, .unset, .unset, .unset, .unset, .unset, .unset, .unset, .unset, .unset] [] := Own.lstore r at_5 rfl
  replace r : A0 l Z n0 D h 0 0 8 #[.val (.long dg), .second, .val (.int sh), .val (.int pt), .val (.int ps), .val (.int ij_), .val (.long v6_1), .second, .unset, .unset, .unset, .unset, .unset, .unset, .unset, .unset, .unset, .unset, .unset, .unset, .unset, .unset, .unset, .unset, .unset, .unset, .unset] [(.int sh)] := Own.iloadN r at_7 rfl
  replace r : A0 l Z n0 D h 0 0 10 #[.val (.long dg), .second, .val (.int sh), .val (.int pt), .val (.int ps), .val (.int ij_), .val (.long v6_1), .second, .unset, .unset, .unset, .unset, .unset, .unset, .unset, .unset, .unset, .unset, .unset, .unset, .unset, .unset, .unset, .unset, .unset, .unset, .unset] [(.int (65535 : Int32)), (.int sh)] := Own.ldcI r at_8 (hw _ (List.mem_of_getElem? (i := 1) rfl))
  replace r : A0 l Z n0 D h 0 0 11 #[.val (.long dg), .second, .val (.int sh), .val (.int pt), .val (.int ps), .val (.int ij_), .val (.long v6_1), .second, .unset, .unset, .unset, .unset, .unset, .unset, .unset, .unset, .unset, .unset, .unset, .unset, .unset, .unset, .unset, .unset, .unset, .unset, .unset] [(.int (sh &&& (65535 : Int32)))] := Own.iand r at_10
  replace r : A0 l Z n0 D h 0 0 13 #[.val (.long dg), .second, .val (.int sh), .val (.int pt), .val (.int ps), .val (.int ij_), .val (.long v6_1), .second, .unset, .unset, .unset, .unset, .unset, .unset, .unset, .unset, .unset, .unset, .unset, .unset, .unset, .unset, .unset, .unset, .unset, .unset, .unset] [(.int (21 : Int32)), (.int (sh &&& (65535 : Int32)))] := Own.bipush r at_11 rfl
  replace r : A0 l Z n0 D h 0 0 14 #[.val (.long dg), .second, .val (.int sh), .val (.int pt), .val (.int ps), .val (.int ij_), .val (.long v6_1), .second, .unset, .unset, .unset, .unset, .unset, .unset, .unset, .unset, .unset, .unset, .unset, .unset, .unset, .unset, .unset, .unset, .unset, .unset, .unset] [(.int ((sh &&& (65535 : Int32)) % (21 : Int32)))] := Own.irem r at_13 (by decide)
  obtain ⟨v8_2, e_v8_2⟩ : ∃ z : Int32, z = ((sh &&& (65535 : Int32)) % (21 : Int32)) := ⟨_, rfl⟩
  replace r : A0 l Z n0 D h 0 0 14 #[.val (.long dg), .second, .val (.int sh), .val (.int pt), .val (.int ps), .val (.int ij_), .val (.long v6_1), .second, .unset, .unset, .unset, .unset, .unset, .unset, .unset, .unset, .unset, .unset, .unset, .unset, .unset, .unset, .unset, .unset, .unset, .unset, .unset] [(.int v8_2)] := by rw [e_v8_2]; exact r
  replace r : A0 l Z n0 D h 0 0 16 #[.val (.long dg), .second, .val (.int sh), .val (.int pt), .val (.int ps), .val (.int ij_), .val (.long v6_1), .second, .val (.int v8_2), .unset, .unset, .unset, .unset, .unset, .unset, .unset, .unset, .unset, .unset, .unset, .unset, .unset, .unset, .unset, .unset, .unset, .unset] [] := Own.istore r at_14 rfl
  replace r : A0 l Z n0 D h 0 0 17 #[.val (.long dg), .second, .val (.int sh), .val (.int pt), .val (.int ps), .val (.int ij_), .val (.long v6_1), .second, .val (.int v8_2), .unset, .unset, .unset, .unset, .unset, .unset, .unset, .unset, .unset, .unset, .unset, .unset, .unset, .unset, .unset, .unset, .unset, .unset] [(.int sh)] := Own.iloadN r at_16 rfl
  replace r : A0 l Z n0 D h 0 0 19 #[.val (.long dg), .second, .val (.int sh), .val (.int pt), .val (.int ps), .val (.int ij_), .val (.long v6_1), .second, .val (.int v8_2), .unset, .unset, .unset, .unset, .unset, .unset, .unset, .unset, .unset, .unset, .unset, .unset, .unset, .unset, .unset, .unset, .unset, .unset] [(.int (16 : Int32)), (.int sh)] := Own.bipush r at_17 rfl
  replace r : A0 l Z n0 D h 0 0 20 #[.val (.long dg), .second, .val (.int sh), .val (.int pt), .val (.int ps), .val (.int ij_), .val (.long v6_1), .second, .val (.int v8_2), .unset, .unset, .unset, .unset, .unset, .unset, .unset, .unset, .unset, .unset, .unset, .unset, .unset, .unset, .unset, .unset, .unset, .unset] [(.int (Own.iushrW sh (16 : Int32)))] := Own.iushr r at_19
  replace r : A0 l Z n0 D h 0 0 21 #[.val (.long dg), .second, .val (.int sh), .val (.int pt), .val (.int ps), .val (.int ij_), .val (.long v6_1), .second, .val (.int v8_2), .unset, .unset, .unset, .unset, .unset, .unset, .unset, .unset, .unset, .unset, .unset, .unset, .unset, .unset, .unset, .unset, .unset, .unset] [(.int (1 : Int32)), (.int (Own.iushrW sh (16 : Int32)))] := Own.iconst r at_20 rfl
  replace r : A0 l Z n0 D h 0 0 22 #[.val (.long dg), .second, .val (.int sh), .val (.int pt), .val (.int ps), .val (.int ij_), .val (.long v6_1), .second, .val (.int v8_2), .unset, .unset, .unset, .unset, .unset, .unset, .unset, .unset, .unset, .unset, .unset, .unset, .unset, .unset, .unset, .unset, .unset, .unset] [(.int ((Own.iushrW sh (16 : Int32)) &&& (1 : Int32)))] := Own.iand r at_21
  obtain ⟨v9_3, e_v9_3⟩ : ∃ z : Int32, z = ((Own.iushrW sh (16 : Int32)) &&& (1 : Int32)) := ⟨_, rfl⟩
  replace r : A0 l Z n0 D h 0 0 22 #[.val (.long dg), .second, .val (.int sh), .val (.int pt), .val (.int ps), .val (.int ij_), .val (.long v6_1), .second, .val (.int v8_2), .unset, .unset, .unset, .unset, .unset, .unset, .unset, .unset, .unset, .unset, .unset, .unset, .unset, .unset, .unset, .unset, .unset, .unset] [(.int v9_3)] := by rw [e_v9_3]; exact r
  replace r : A0 l Z n0 D h 0 0 24 #[.val (.long dg), .second, .val (.int sh), .val (.int pt), .val (.int ps), .val (.int ij_), .val (.long v6_1), .second, .val (.int v8_2), .val (.int v9_3), .unset, .unset, .unset, .unset, .unset, .unset, .unset, .unset, .unset, .unset, .unset, .unset, .unset, .unset, .unset, .unset, .unset] [] := Own.istore r at_22 rfl
  replace r : A0 l Z n0 D h 0 0 25 #[.val (.long dg), .second, .val (.int sh), .val (.int pt), .val (.int ps), .val (.int ij_), .val (.long v6_1), .second, .val (.int v8_2), .val (.int v9_3), .unset, .unset, .unset, .unset, .unset, .unset, .unset, .unset, .unset, .unset, .unset, .unset, .unset, .unset, .unset, .unset, .unset] [(.int sh)] := Own.iloadN r at_24 rfl
  replace r : A0 l Z n0 D h 0 0 27 #[.val (.long dg), .second, .val (.int sh), .val (.int pt), .val (.int ps), .val (.int ij_), .val (.long v6_1), .second, .val (.int v8_2), .val (.int v9_3), .unset, .unset, .unset, .unset, .unset, .unset, .unset, .unset, .unset, .unset, .unset, .unset, .unset, .unset, .unset, .unset, .unset] [(.int (17 : Int32)), (.int sh)] := Own.bipush r at_25 rfl
  replace r : A0 l Z n0 D h 0 0 28 #[.val (.long dg), .second, .val (.int sh), .val (.int pt), .val (.int ps), .val (.int ij_), .val (.long v6_1), .second, .val (.int v8_2), .val (.int v9_3), .unset, .unset, .unset, .unset, .unset, .unset, .unset, .unset, .unset, .unset, .unset, .unset, .unset, .unset, .unset, .unset, .unset] [(.int (Own.iushrW sh (17 : Int32)))] := Own.iushr r at_27
  replace r : A0 l Z n0 D h 0 0 29 #[.val (.long dg), .second, .val (.int sh), .val (.int pt), .val (.int ps), .val (.int ij_), .val (.long v6_1), .second, .val (.int v8_2), .val (.int v9_3), .unset, .unset, .unset, .unset, .unset, .unset, .unset, .unset, .unset, .unset, .unset, .unset, .unset, .unset, .unset, .unset, .unset] [(.int (1 : Int32)), (.int (Own.iushrW sh (17 : Int32)))] := Own.iconst r at_28 rfl
  replace r : A0 l Z n0 D h 0 0 30 #[.val (.long dg), .second, .val (.int sh), .val (.int pt), .val (.int ps), .val (.int ij_), .val (.long v6_1), .second, .val (.int v8_2), .val (.int v9_3), .unset, .unset, .unset, .unset, .unset, .unset, .unset, .unset, .unset, .unset, .unset, .unset, .unset, .unset, .unset, .unset, .unset] [(.int ((Own.iushrW sh (17 : Int32)) &&& (1 : Int32)))] := Own.iand r at_29
  obtain ⟨m4, e_m4, r⟩ : ∃ (m4 : Int32), m4 = (if ((Own.iushrW sh (17 : Int32)) &&& (1 : Int32)) = (0 : Int32) then (0 : Int32) else (1 : Int32)) ∧ A0 l Z n0 D h 0 0 38 #[.val (.long dg), .second, .val (.int sh), .val (.int pt), .val (.int ps), .val (.int ij_), .val (.long v6_1), .second, .val (.int v8_2), .val (.int v9_3), .unset, .unset, .unset, .unset, .unset, .unset, .unset, .unset, .unset, .unset, .unset, .unset, .unset, .unset, .unset, .unset, .unset] [(.int m4)] := by
    by_cases br5 : ((Own.iushrW sh (17 : Int32)) &&& (1 : Int32)) = (0 : Int32)
    · skip
      replace r : A0 l Z n0 D h 0 0 37 #[.val (.long dg), .second, .val (.int sh), .val (.int pt), .val (.int ps), .val (.int ij_), .val (.long v6_1), .second, .val (.int v8_2), .val (.int v9_3), .unset, .unset, .unset, .unset, .unset, .unset, .unset, .unset, .unset, .unset, .unset, .unset, .unset, .unset, .unset, .unset, .unset] [] := Own.ifYes r at_30 ((if0 _ _).trans (teq br5).1) (by decide) (by decide)
      replace r : A0 l Z n0 D h 0 0 38 #[.val (.long dg), .second, .val (.int sh), .val (.int pt), .val (.int ps), .val (.int ij_), .val (.long v6_1), .second, .val (.int v8_2), .val (.int v9_3), .unset, .unset, .unset, .unset, .unset, .unset, .unset, .unset, .unset, .unset, .unset, .unset, .unset, .unset, .unset, .unset, .unset] [(.int (0 : Int32))] := Own.iconst r at_37 rfl
      exact ⟨_, by rw [if_pos br5], r⟩
    · skip
      replace r : A0 l Z n0 D h 0 0 33 #[.val (.long dg), .second, .val (.int sh), .val (.int pt), .val (.int ps), .val (.int ij_), .val (.long v6_1), .second, .val (.int v8_2), .val (.int v9_3), .unset, .unset, .unset, .unset, .unset, .unset, .unset, .unset, .unset, .unset, .unset, .unset, .unset, .unset, .unset, .unset, .unset] [] := Own.ifNo r at_30 ((if0 _ _).trans (feq br5).1)
      replace r : A0 l Z n0 D h 0 0 34 #[.val (.long dg), .second, .val (.int sh), .val (.int pt), .val (.int ps), .val (.int ij_), .val (.long v6_1), .second, .val (.int v8_2), .val (.int v9_3), .unset, .unset, .unset, .unset, .unset, .unset, .unset, .unset, .unset, .unset, .unset, .unset, .unset, .unset, .unset, .unset, .unset] [(.int (1 : Int32))] := Own.iconst r at_33 rfl
      replace r : A0 l Z n0 D h 0 0 38 #[.val (.long dg), .second, .val (.int sh), .val (.int pt), .val (.int ps), .val (.int ij_), .val (.long v6_1), .second, .val (.int v8_2), .val (.int v9_3), .unset, .unset, .unset, .unset, .unset, .unset, .unset, .unset, .unset, .unset, .unset, .unset, .unset, .unset, .unset, .unset, .unset] [(.int (1 : Int32))] := Own.goto r at_34 (by decide) (by decide)
      exact ⟨_, by rw [if_neg br5], r⟩
  replace r : A0 l Z n0 D h 0 0 40 #[.val (.long dg), .second, .val (.int sh), .val (.int pt), .val (.int ps), .val (.int ij_), .val (.long v6_1), .second, .val (.int v8_2), .val (.int v9_3), .val (.int m4), .unset, .unset, .unset, .unset, .unset, .unset, .unset, .unset, .unset, .unset, .unset, .unset, .unset, .unset, .unset, .unset] [] := Own.istore r at_38 rfl
  replace r : A0 l Z n0 D h 0 0 42 #[.val (.long dg), .second, .val (.int sh), .val (.int pt), .val (.int ps), .val (.int ij_), .val (.long v6_1), .second, .val (.int v8_2), .val (.int v9_3), .val (.int m4), .unset, .unset, .unset, .unset, .unset, .unset, .unset, .unset, .unset, .unset, .unset, .unset, .unset, .unset, .unset, .unset] [(.int m4)] := Own.iload r at_40 rfl
  obtain ⟨m6, e_m6, r⟩ : ∃ (m6 : Int32), m6 = (if m4 = (0 : Int32) then (-1 : Int32) else (if (0 : Int32) < v8_2 then ((pt &&& (2147483647 : Int32)) % v8_2) else (-1 : Int32))) ∧ A0 l Z n0 D h 0 0 61 #[.val (.long dg), .second, .val (.int sh), .val (.int pt), .val (.int ps), .val (.int ij_), .val (.long v6_1), .second, .val (.int v8_2), .val (.int v9_3), .val (.int m4), .unset, .unset, .unset, .unset, .unset, .unset, .unset, .unset, .unset, .unset, .unset, .unset, .unset, .unset, .unset, .unset] [(.int m6)] := by
    by_cases br7 : m4 = (0 : Int32)
    · skip
      replace r : A0 l Z n0 D h 0 0 60 #[.val (.long dg), .second, .val (.int sh), .val (.int pt), .val (.int ps), .val (.int ij_), .val (.long v6_1), .second, .val (.int v8_2), .val (.int v9_3), .val (.int m4), .unset, .unset, .unset, .unset, .unset, .unset, .unset, .unset, .unset, .unset, .unset, .unset, .unset, .unset, .unset, .unset] [] := Own.ifYes r at_42 ((if0 _ _).trans (teq br7).1) (by decide) (by decide)
      replace r : A0 l Z n0 D h 0 0 61 #[.val (.long dg), .second, .val (.int sh), .val (.int pt), .val (.int ps), .val (.int ij_), .val (.long v6_1), .second, .val (.int v8_2), .val (.int v9_3), .val (.int m4), .unset, .unset, .unset, .unset, .unset, .unset, .unset, .unset, .unset, .unset, .unset, .unset, .unset, .unset, .unset, .unset] [(.int (-1 : Int32))] := Own.iconst r at_60 rfl
      exact ⟨_, by rw [if_pos br7], r⟩
    · skip
      replace r : A0 l Z n0 D h 0 0 45 #[.val (.long dg), .second, .val (.int sh), .val (.int pt), .val (.int ps), .val (.int ij_), .val (.long v6_1), .second, .val (.int v8_2), .val (.int v9_3), .val (.int m4), .unset, .unset, .unset, .unset, .unset, .unset, .unset, .unset, .unset, .unset, .unset, .unset, .unset, .unset, .unset, .unset] [] := Own.ifNo r at_42 ((if0 _ _).trans (feq br7).1)
      replace r : A0 l Z n0 D h 0 0 47 #[.val (.long dg), .second, .val (.int sh), .val (.int pt), .val (.int ps), .val (.int ij_), .val (.long v6_1), .second, .val (.int v8_2), .val (.int v9_3), .val (.int m4), .unset, .unset, .unset, .unset, .unset, .unset, .unset, .unset, .unset, .unset, .unset, .unset, .unset, .unset, .unset, .unset] [(.int v8_2)] := Own.iload r at_45 rfl
      by_cases br8 : (0 : Int32) < v8_2
      · skip
        replace r : A0 l Z n0 D h 0 0 50 #[.val (.long dg), .second, .val (.int sh), .val (.int pt), .val (.int ps), .val (.int ij_), .val (.long v6_1), .second, .val (.int v8_2), .val (.int v9_3), .val (.int m4), .unset, .unset, .unset, .unset, .unset, .unset, .unset, .unset, .unset, .unset, .unset, .unset, .unset, .unset, .unset, .unset] [] := Own.ifNo r at_47 ((if0 _ _).trans (tlt br8).2.2.2)
        replace r : A0 l Z n0 D h 0 0 51 #[.val (.long dg), .second, .val (.int sh), .val (.int pt), .val (.int ps), .val (.int ij_), .val (.long v6_1), .second, .val (.int v8_2), .val (.int v9_3), .val (.int m4), .unset, .unset, .unset, .unset, .unset, .unset, .unset, .unset, .unset, .unset, .unset, .unset, .unset, .unset, .unset, .unset] [(.int pt)] := Own.iloadN r at_50 rfl
        replace r : A0 l Z n0 D h 0 0 53 #[.val (.long dg), .second, .val (.int sh), .val (.int pt), .val (.int ps), .val (.int ij_), .val (.long v6_1), .second, .val (.int v8_2), .val (.int v9_3), .val (.int m4), .unset, .unset, .unset, .unset, .unset, .unset, .unset, .unset, .unset, .unset, .unset, .unset, .unset, .unset, .unset, .unset] [(.int (2147483647 : Int32)), (.int pt)] := Own.ldcI r at_51 (hw _ (List.mem_of_getElem? (i := 39) rfl))
        replace r : A0 l Z n0 D h 0 0 54 #[.val (.long dg), .second, .val (.int sh), .val (.int pt), .val (.int ps), .val (.int ij_), .val (.long v6_1), .second, .val (.int v8_2), .val (.int v9_3), .val (.int m4), .unset, .unset, .unset, .unset, .unset, .unset, .unset, .unset, .unset, .unset, .unset, .unset, .unset, .unset, .unset, .unset] [(.int (pt &&& (2147483647 : Int32)))] := Own.iand r at_53
        replace r : A0 l Z n0 D h 0 0 56 #[.val (.long dg), .second, .val (.int sh), .val (.int pt), .val (.int ps), .val (.int ij_), .val (.long v6_1), .second, .val (.int v8_2), .val (.int v9_3), .val (.int m4), .unset, .unset, .unset, .unset, .unset, .unset, .unset, .unset, .unset, .unset, .unset, .unset, .unset, .unset, .unset, .unset] [(.int v8_2), (.int (pt &&& (2147483647 : Int32)))] := Own.iload r at_54 rfl
        replace r : A0 l Z n0 D h 0 0 57 #[.val (.long dg), .second, .val (.int sh), .val (.int pt), .val (.int ps), .val (.int ij_), .val (.long v6_1), .second, .val (.int v8_2), .val (.int v9_3), .val (.int m4), .unset, .unset, .unset, .unset, .unset, .unset, .unset, .unset, .unset, .unset, .unset, .unset, .unset, .unset, .unset, .unset] [(.int ((pt &&& (2147483647 : Int32)) % v8_2))] := Own.irem r at_56 (own_pos (by assumption))
        replace r : A0 l Z n0 D h 0 0 61 #[.val (.long dg), .second, .val (.int sh), .val (.int pt), .val (.int ps), .val (.int ij_), .val (.long v6_1), .second, .val (.int v8_2), .val (.int v9_3), .val (.int m4), .unset, .unset, .unset, .unset, .unset, .unset, .unset, .unset, .unset, .unset, .unset, .unset, .unset, .unset, .unset, .unset] [(.int ((pt &&& (2147483647 : Int32)) % v8_2))] := Own.goto r at_57 (by decide) (by decide)
        exact ⟨_, by rw [if_neg br7, if_pos br8], r⟩
      · skip
        replace r : A0 l Z n0 D h 0 0 60 #[.val (.long dg), .second, .val (.int sh), .val (.int pt), .val (.int ps), .val (.int ij_), .val (.long v6_1), .second, .val (.int v8_2), .val (.int v9_3), .val (.int m4), .unset, .unset, .unset, .unset, .unset, .unset, .unset, .unset, .unset, .unset, .unset, .unset, .unset, .unset, .unset, .unset] [] := Own.ifYes r at_47 ((if0 _ _).trans (flt br8).2.2.2) (by decide) (by decide)
        replace r : A0 l Z n0 D h 0 0 61 #[.val (.long dg), .second, .val (.int sh), .val (.int pt), .val (.int ps), .val (.int ij_), .val (.long v6_1), .second, .val (.int v8_2), .val (.int v9_3), .val (.int m4), .unset, .unset, .unset, .unset, .unset, .unset, .unset, .unset, .unset, .unset, .unset, .unset, .unset, .unset, .unset, .unset] [(.int (-1 : Int32))] := Own.iconst r at_60 rfl
        exact ⟨_, by rw [if_neg br7, if_neg br8], r⟩
  replace r : A0 l Z n0 D h 0 0 63 #[.val (.long dg), .second, .val (.int sh), .val (.int pt), .val (.int ps), .val (.int ij_), .val (.long v6_1), .second, .val (.int v8_2), .val (.int v9_3), .val (.int m4), .val (.int m6), .unset, .unset, .unset, .unset, .unset, .unset, .unset, .unset, .unset, .unset, .unset, .unset, .unset, .unset, .unset] [] := Own.istore r at_61 rfl
  replace r : A0 l Z n0 D h 0 0 65 #[.val (.long dg), .second, .val (.int sh), .val (.int pt), .val (.int ps), .val (.int ij_), .val (.long v6_1), .second, .val (.int v8_2), .val (.int v9_3), .val (.int m4), .val (.int m6), .unset, .unset, .unset, .unset, .unset, .unset, .unset, .unset, .unset, .unset, .unset, .unset, .unset, .unset, .unset] [(.int ps)] := Own.iload r at_63 rfl
  replace r : A0 l Z n0 D h 0 0 67 #[.val (.long dg), .second, .val (.int sh), .val (.int pt), .val (.int ps), .val (.int ij_), .val (.long v6_1), .second, .val (.int v8_2), .val (.int v9_3), .val (.int m4), .val (.int m6), .unset, .unset, .unset, .unset, .unset, .unset, .unset, .unset, .unset, .unset, .unset, .unset, .unset, .unset, .unset] [(.int (31 : Int32)), (.int ps)] := Own.bipush r at_65 rfl
  replace r : A0 l Z n0 D h 0 0 68 #[.val (.long dg), .second, .val (.int sh), .val (.int pt), .val (.int ps), .val (.int ij_), .val (.long v6_1), .second, .val (.int v8_2), .val (.int v9_3), .val (.int m4), .val (.int m6), .unset, .unset, .unset, .unset, .unset, .unset, .unset, .unset, .unset, .unset, .unset, .unset, .unset, .unset, .unset] [(.int (ps &&& (31 : Int32)))] := Own.iand r at_67
  replace r : A0 l Z n0 D h 0 0 69 #[.val (.long dg), .second, .val (.int sh), .val (.int pt), .val (.int ps), .val (.int ij_), .val (.long v6_1), .second, .val (.int v8_2), .val (.int v9_3), .val (.int m4), .val (.int m6), .unset, .unset, .unset, .unset, .unset, .unset, .unset, .unset, .unset, .unset, .unset, .unset, .unset, .unset, .unset] [(.int (4 : Int32)), (.int (ps &&& (31 : Int32)))] := Own.iconst r at_68 rfl
  replace r : A0 l Z n0 D h 0 0 70 #[.val (.long dg), .second, .val (.int sh), .val (.int pt), .val (.int ps), .val (.int ij_), .val (.long v6_1), .second, .val (.int v8_2), .val (.int v9_3), .val (.int m4), .val (.int m6), .unset, .unset, .unset, .unset, .unset, .unset, .unset, .unset, .unset, .unset, .unset, .unset, .unset, .unset, .unset] [(.int ((ps &&& (31 : Int32)) - (4 : Int32)))] := Own.isub r at_69
  obtain ⟨v12_9, e_v12_9⟩ : ∃ z : Int32, z = ((ps &&& (31 : Int32)) - (4 : Int32)) := ⟨_, rfl⟩
  replace r : A0 l Z n0 D h 0 0 70 #[.val (.long dg), .second, .val (.int sh), .val (.int pt), .val (.int ps), .val (.int ij_), .val (.long v6_1), .second, .val (.int v8_2), .val (.int v9_3), .val (.int m4), .val (.int m6), .unset, .unset, .unset, .unset, .unset, .unset, .unset, .unset, .unset, .unset, .unset, .unset, .unset, .unset, .unset] [(.int v12_9)] := by rw [e_v12_9]; exact r
  replace r : A0 l Z n0 D h 0 0 72 #[.val (.long dg), .second, .val (.int sh), .val (.int pt), .val (.int ps), .val (.int ij_), .val (.long v6_1), .second, .val (.int v8_2), .val (.int v9_3), .val (.int m4), .val (.int m6), .val (.int v12_9), .unset, .unset, .unset, .unset, .unset, .unset, .unset, .unset, .unset, .unset, .unset, .unset, .unset, .unset] [] := Own.istore r at_70 rfl
  replace r : A0 l Z n0 D h 0 0 74 #[.val (.long dg), .second, .val (.int sh), .val (.int pt), .val (.int ps), .val (.int ij_), .val (.long v6_1), .second, .val (.int v8_2), .val (.int v9_3), .val (.int m4), .val (.int m6), .val (.int v12_9), .unset, .unset, .unset, .unset, .unset, .unset, .unset, .unset, .unset, .unset, .unset, .unset, .unset, .unset] [(.int ij_)] := Own.iload r at_72 rfl
  replace r : A0 l Z n0 D h 0 0 75 #[.val (.long dg), .second, .val (.int sh), .val (.int pt), .val (.int ps), .val (.int ij_), .val (.long v6_1), .second, .val (.int v8_2), .val (.int v9_3), .val (.int m4), .val (.int m6), .val (.int v12_9), .unset, .unset, .unset, .unset, .unset, .unset, .unset, .unset, .unset, .unset, .unset, .unset, .unset, .unset] [(.int (3 : Int32)), (.int ij_)] := Own.iconst r at_74 rfl
  replace r : A0 l Z n0 D h 0 0 76 #[.val (.long dg), .second, .val (.int sh), .val (.int pt), .val (.int ps), .val (.int ij_), .val (.long v6_1), .second, .val (.int v8_2), .val (.int v9_3), .val (.int m4), .val (.int m6), .val (.int v12_9), .unset, .unset, .unset, .unset, .unset, .unset, .unset, .unset, .unset, .unset, .unset, .unset, .unset, .unset] [(.int (ij_ &&& (3 : Int32)))] := Own.iand r at_75
  obtain ⟨v13_10, e_v13_10⟩ : ∃ z : Int32, z = (ij_ &&& (3 : Int32)) := ⟨_, rfl⟩
  replace r : A0 l Z n0 D h 0 0 76 #[.val (.long dg), .second, .val (.int sh), .val (.int pt), .val (.int ps), .val (.int ij_), .val (.long v6_1), .second, .val (.int v8_2), .val (.int v9_3), .val (.int m4), .val (.int m6), .val (.int v12_9), .unset, .unset, .unset, .unset, .unset, .unset, .unset, .unset, .unset, .unset, .unset, .unset, .unset, .unset] [(.int v13_10)] := by rw [e_v13_10]; exact r
  replace r : A0 l Z n0 D h 0 0 78 #[.val (.long dg), .second, .val (.int sh), .val (.int pt), .val (.int ps), .val (.int ij_), .val (.long v6_1), .second, .val (.int v8_2), .val (.int v9_3), .val (.int m4), .val (.int m6), .val (.int v12_9), .val (.int v13_10), .unset, .unset, .unset, .unset, .unset, .unset, .unset, .unset, .unset, .unset, .unset, .unset, .unset] [] := Own.istore r at_76 rfl
  replace r : A0 l Z n0 D h 0 0 80 #[.val (.long dg), .second, .val (.int sh), .val (.int pt), .val (.int ps), .val (.int ij_), .val (.long v6_1), .second, .val (.int v8_2), .val (.int v9_3), .val (.int m4), .val (.int m6), .val (.int v12_9), .val (.int v13_10), .unset, .unset, .unset, .unset, .unset, .unset, .unset, .unset, .unset, .unset, .unset, .unset, .unset] [(.int v8_2)] := Own.iload r at_78 rfl
  obtain ⟨m11, e_m11, r⟩ : ∃ (m11 : Int32), m11 = (if (0 : Int32) < v8_2 then (((Own.iushrW ij_ (2 : Int32)) &&& (65535 : Int32)) % v8_2) else (0 : Int32)) ∧ A0 l Z n0 D h 0 0 97 #[.val (.long dg), .second, .val (.int sh), .val (.int pt), .val (.int ps), .val (.int ij_), .val (.long v6_1), .second, .val (.int v8_2), .val (.int v9_3), .val (.int m4), .val (.int m6), .val (.int v12_9), .val (.int v13_10), .unset, .unset, .unset, .unset, .unset, .unset, .unset, .unset, .unset, .unset, .unset, .unset, .unset] [(.int m11)] := by
    by_cases br12 : (0 : Int32) < v8_2
    · skip
      replace r : A0 l Z n0 D h 0 0 83 #[.val (.long dg), .second, .val (.int sh), .val (.int pt), .val (.int ps), .val (.int ij_), .val (.long v6_1), .second, .val (.int v8_2), .val (.int v9_3), .val (.int m4), .val (.int m6), .val (.int v12_9), .val (.int v13_10), .unset, .unset, .unset, .unset, .unset, .unset, .unset, .unset, .unset, .unset, .unset, .unset, .unset] [] := Own.ifNo r at_80 ((if0 _ _).trans (tlt br12).2.2.2)
      replace r : A0 l Z n0 D h 0 0 85 #[.val (.long dg), .second, .val (.int sh), .val (.int pt), .val (.int ps), .val (.int ij_), .val (.long v6_1), .second, .val (.int v8_2), .val (.int v9_3), .val (.int m4), .val (.int m6), .val (.int v12_9), .val (.int v13_10), .unset, .unset, .unset, .unset, .unset, .unset, .unset, .unset, .unset, .unset, .unset, .unset, .unset] [(.int ij_)] := Own.iload r at_83 rfl
      replace r : A0 l Z n0 D h 0 0 86 #[.val (.long dg), .second, .val (.int sh), .val (.int pt), .val (.int ps), .val (.int ij_), .val (.long v6_1), .second, .val (.int v8_2), .val (.int v9_3), .val (.int m4), .val (.int m6), .val (.int v12_9), .val (.int v13_10), .unset, .unset, .unset, .unset, .unset, .unset, .unset, .unset, .unset, .unset, .unset, .unset, .unset] [(.int (2 : Int32)), (.int ij_)] := Own.iconst r at_85 rfl
      replace r : A0 l Z n0 D h 0 0 87 #[.val (.long dg), .second, .val (.int sh), .val (.int pt), .val (.int ps), .val (.int ij_), .val (.long v6_1), .second, .val (.int v8_2), .val (.int v9_3), .val (.int m4), .val (.int m6), .val (.int v12_9), .val (.int v13_10), .unset, .unset, .unset, .unset, .unset, .unset, .unset, .unset, .unset, .unset, .unset, .unset, .unset] [(.int (Own.iushrW ij_ (2 : Int32)))] := Own.iushr r at_86
      replace r : A0 l Z n0 D h 0 0 89 #[.val (.long dg), .second, .val (.int sh), .val (.int pt), .val (.int ps), .val (.int ij_), .val (.long v6_1), .second, .val (.int v8_2), .val (.int v9_3), .val (.int m4), .val (.int m6), .val (.int v12_9), .val (.int v13_10), .unset, .unset, .unset, .unset, .unset, .unset, .unset, .unset, .unset, .unset, .unset, .unset, .unset] [(.int (65535 : Int32)), (.int (Own.iushrW ij_ (2 : Int32)))] := Own.ldcI r at_87 (hw _ (List.mem_of_getElem? (i := 1) rfl))
      replace r : A0 l Z n0 D h 0 0 90 #[.val (.long dg), .second, .val (.int sh), .val (.int pt), .val (.int ps), .val (.int ij_), .val (.long v6_1), .second, .val (.int v8_2), .val (.int v9_3), .val (.int m4), .val (.int m6), .val (.int v12_9), .val (.int v13_10), .unset, .unset, .unset, .unset, .unset, .unset, .unset, .unset, .unset, .unset, .unset, .unset, .unset] [(.int ((Own.iushrW ij_ (2 : Int32)) &&& (65535 : Int32)))] := Own.iand r at_89
      replace r : A0 l Z n0 D h 0 0 92 #[.val (.long dg), .second, .val (.int sh), .val (.int pt), .val (.int ps), .val (.int ij_), .val (.long v6_1), .second, .val (.int v8_2), .val (.int v9_3), .val (.int m4), .val (.int m6), .val (.int v12_9), .val (.int v13_10), .unset, .unset, .unset, .unset, .unset, .unset, .unset, .unset, .unset, .unset, .unset, .unset, .unset] [(.int v8_2), (.int ((Own.iushrW ij_ (2 : Int32)) &&& (65535 : Int32)))] := Own.iload r at_90 rfl
      replace r : A0 l Z n0 D h 0 0 93 #[.val (.long dg), .second, .val (.int sh), .val (.int pt), .val (.int ps), .val (.int ij_), .val (.long v6_1), .second, .val (.int v8_2), .val (.int v9_3), .val (.int m4), .val (.int m6), .val (.int v12_9), .val (.int v13_10), .unset, .unset, .unset, .unset, .unset, .unset, .unset, .unset, .unset, .unset, .unset, .unset, .unset] [(.int (((Own.iushrW ij_ (2 : Int32)) &&& (65535 : Int32)) % v8_2))] := Own.irem r at_92 (own_pos (by assumption))
      replace r : A0 l Z n0 D h 0 0 97 #[.val (.long dg), .second, .val (.int sh), .val (.int pt), .val (.int ps), .val (.int ij_), .val (.long v6_1), .second, .val (.int v8_2), .val (.int v9_3), .val (.int m4), .val (.int m6), .val (.int v12_9), .val (.int v13_10), .unset, .unset, .unset, .unset, .unset, .unset, .unset, .unset, .unset, .unset, .unset, .unset, .unset] [(.int (((Own.iushrW ij_ (2 : Int32)) &&& (65535 : Int32)) % v8_2))] := Own.goto r at_93 (by decide) (by decide)
      exact ⟨_, by rw [if_pos br12], r⟩
    · skip
      replace r : A0 l Z n0 D h 0 0 96 #[.val (.long dg), .second, .val (.int sh), .val (.int pt), .val (.int ps), .val (.int ij_), .val (.long v6_1), .second, .val (.int v8_2), .val (.int v9_3), .val (.int m4), .val (.int m6), .val (.int v12_9), .val (.int v13_10), .unset, .unset, .unset, .unset, .unset, .unset, .unset, .unset, .unset, .unset, .unset, .unset, .unset] [] := Own.ifYes r at_80 ((if0 _ _).trans (flt br12).2.2.2) (by decide) (by decide)
      replace r : A0 l Z n0 D h 0 0 97 #[.val (.long dg), .second, .val (.int sh), .val (.int pt), .val (.int ps), .val (.int ij_), .val (.long v6_1), .second, .val (.int v8_2), .val (.int v9_3), .val (.int m4), .val (.int m6), .val (.int v12_9), .val (.int v13_10), .unset, .unset, .unset, .unset, .unset, .unset, .unset, .unset, .unset, .unset, .unset, .unset, .unset] [(.int (0 : Int32))] := Own.iconst r at_96 rfl
      exact ⟨_, by rw [if_neg br12], r⟩
  replace r : A0 l Z n0 D h 0 0 99 #[.val (.long dg), .second, .val (.int sh), .val (.int pt), .val (.int ps), .val (.int ij_), .val (.long v6_1), .second, .val (.int v8_2), .val (.int v9_3), .val (.int m4), .val (.int m6), .val (.int v12_9), .val (.int v13_10), .val (.int m11), .unset, .unset, .unset, .unset, .unset, .unset, .unset, .unset, .unset, .unset, .unset, .unset] [] := Own.istore r at_97 rfl
  replace r : A0 l Z n0 D h 0 0 101 #[.val (.long dg), .second, .val (.int sh), .val (.int pt), .val (.int ps), .val (.int ij_), .val (.long v6_1), .second, .val (.int v8_2), .val (.int v9_3), .val (.int m4), .val (.int m6), .val (.int v12_9), .val (.int v13_10), .val (.int m11), .unset, .unset, .unset, .unset, .unset, .unset, .unset, .unset, .unset, .unset, .unset, .unset] [(.int ij_)] := Own.iload r at_99 rfl
  replace r : A0 l Z n0 D h 0 0 103 #[.val (.long dg), .second, .val (.int sh), .val (.int pt), .val (.int ps), .val (.int ij_), .val (.long v6_1), .second, .val (.int v8_2), .val (.int v9_3), .val (.int m4), .val (.int m6), .val (.int v12_9), .val (.int v13_10), .val (.int m11), .unset, .unset, .unset, .unset, .unset, .unset, .unset, .unset, .unset, .unset, .unset, .unset] [(.int (18 : Int32)), (.int ij_)] := Own.bipush r at_101 rfl
  replace r : A0 l Z n0 D h 0 0 104 #[.val (.long dg), .second, .val (.int sh), .val (.int pt), .val (.int ps), .val (.int ij_), .val (.long v6_1), .second, .val (.int v8_2), .val (.int v9_3), .val (.int m4), .val (.int m6), .val (.int v12_9), .val (.int v13_10), .val (.int m11), .unset, .unset, .unset, .unset, .unset, .unset, .unset, .unset, .unset, .unset, .unset, .unset] [(.int (Own.iushrW ij_ (18 : Int32)))] := Own.iushr r at_103
  replace r : A0 l Z n0 D h 0 0 107 #[.val (.long dg), .second, .val (.int sh), .val (.int pt), .val (.int ps), .val (.int ij_), .val (.long v6_1), .second, .val (.int v8_2), .val (.int v9_3), .val (.int m4), .val (.int m6), .val (.int v12_9), .val (.int v13_10), .val (.int m11), .unset, .unset, .unset, .unset, .unset, .unset, .unset, .unset, .unset, .unset, .unset, .unset] [(.int (255 : Int32)), (.int (Own.iushrW ij_ (18 : Int32)))] := Own.sipush r at_104 rfl
  replace r : A0 l Z n0 D h 0 0 108 #[.val (.long dg), .second, .val (.int sh), .val (.int pt), .val (.int ps), .val (.int ij_), .val (.long v6_1), .second, .val (.int v8_2), .val (.int v9_3), .val (.int m4), .val (.int m6), .val (.int v12_9), .val (.int v13_10), .val (.int m11), .unset, .unset, .unset, .unset, .unset, .unset, .unset, .unset, .unset, .unset, .unset, .unset] [(.int ((Own.iushrW ij_ (18 : Int32)) &&& (255 : Int32)))] := Own.iand r at_107
  obtain ⟨v15_13, e_v15_13⟩ : ∃ z : Int32, z = ((Own.iushrW ij_ (18 : Int32)) &&& (255 : Int32)) := ⟨_, rfl⟩
  replace r : A0 l Z n0 D h 0 0 108 #[.val (.long dg), .second, .val (.int sh), .val (.int pt), .val (.int ps), .val (.int ij_), .val (.long v6_1), .second, .val (.int v8_2), .val (.int v9_3), .val (.int m4), .val (.int m6), .val (.int v12_9), .val (.int v13_10), .val (.int m11), .unset, .unset, .unset, .unset, .unset, .unset, .unset, .unset, .unset, .unset, .unset, .unset] [(.int v15_13)] := by rw [e_v15_13]; exact r
  replace r : A0 l Z n0 D h 0 0 110 #[.val (.long dg), .second, .val (.int sh), .val (.int pt), .val (.int ps), .val (.int ij_), .val (.long v6_1), .second, .val (.int v8_2), .val (.int v9_3), .val (.int m4), .val (.int m6), .val (.int v12_9), .val (.int v13_10), .val (.int m11), .val (.int v15_13), .unset, .unset, .unset, .unset, .unset, .unset, .unset, .unset, .unset, .unset, .unset] [] := Own.istore r at_108 rfl
  replace r : A0 l Z n0 D h 0 0 112 #[.val (.long dg), .second, .val (.int sh), .val (.int pt), .val (.int ps), .val (.int ij_), .val (.long v6_1), .second, .val (.int v8_2), .val (.int v9_3), .val (.int m4), .val (.int m6), .val (.int v12_9), .val (.int v13_10), .val (.int m11), .val (.int v15_13), .unset, .unset, .unset, .unset, .unset, .unset, .unset, .unset, .unset, .unset, .unset] [(.int v15_13)] := Own.iload r at_110 rfl
  replace r : A0 l Z n0 D h 0 0 114 #[.val (.long dg), .second, .val (.int sh), .val (.int pt), .val (.int ps), .val (.int ij_), .val (.long v6_1), .second, .val (.int v8_2), .val (.int v9_3), .val (.int m4), .val (.int m6), .val (.int v12_9), .val (.int v13_10), .val (.int m11), .val (.int v15_13), .unset, .unset, .unset, .unset, .unset, .unset, .unset, .unset, .unset, .unset, .unset] [(.int (48 : Int32)), (.int v15_13)] := Own.bipush r at_112 rfl
  obtain ⟨m14, e_m14, r⟩ : ∃ (m14 : Int32), m14 = (if v15_13 < (48 : Int32) then (if v15_13 = (46 : Int32) then (1 : Int32) else (0 : Int32)) else (if (57 : Int32) < v15_13 then (if v15_13 = (46 : Int32) then (1 : Int32) else (0 : Int32)) else (1 : Int32))) ∧ A0 l Z n0 D h 0 0 136 #[.val (.long dg), .second, .val (.int sh), .val (.int pt), .val (.int ps), .val (.int ij_), .val (.long v6_1), .second, .val (.int v8_2), .val (.int v9_3), .val (.int m4), .val (.int m6), .val (.int v12_9), .val (.int v13_10), .val (.int m11), .val (.int v15_13), .unset, .unset, .unset, .unset, .unset, .unset, .unset, .unset, .unset, .unset, .unset] [(.int m14)] := by
    by_cases br15 : v15_13 < (48 : Int32)
    · skip
      replace r : A0 l Z n0 D h 0 0 124 #[.val (.long dg), .second, .val (.int sh), .val (.int pt), .val (.int ps), .val (.int ij_), .val (.long v6_1), .second, .val (.int v8_2), .val (.int v9_3), .val (.int m4), .val (.int m6), .val (.int v12_9), .val (.int v13_10), .val (.int m11), .val (.int v15_13), .unset, .unset, .unset, .unset, .unset, .unset, .unset, .unset, .unset, .unset, .unset] [] := Own.icmpYes r at_114 (tlt br15).1 (by decide) (by decide)
      replace r : A0 l Z n0 D h 0 0 126 #[.val (.long dg), .second, .val (.int sh), .val (.int pt), .val (.int ps), .val (.int ij_), .val (.long v6_1), .second, .val (.int v8_2), .val (.int v9_3), .val (.int m4), .val (.int m6), .val (.int v12_9), .val (.int v13_10), .val (.int m11), .val (.int v15_13), .unset, .unset, .unset, .unset, .unset, .unset, .unset, .unset, .unset, .unset, .unset] [(.int v15_13)] := Own.iload r at_124 rfl
      replace r : A0 l Z n0 D h 0 0 128 #[.val (.long dg), .second, .val (.int sh), .val (.int pt), .val (.int ps), .val (.int ij_), .val (.long v6_1), .second, .val (.int v8_2), .val (.int v9_3), .val (.int m4), .val (.int m6), .val (.int v12_9), .val (.int v13_10), .val (.int m11), .val (.int v15_13), .unset, .unset, .unset, .unset, .unset, .unset, .unset, .unset, .unset, .unset, .unset] [(.int (46 : Int32)), (.int v15_13)] := Own.bipush r at_126 rfl
      by_cases br16 : v15_13 = (46 : Int32)
      · skip
        replace r : A0 l Z n0 D h 0 0 131 #[.val (.long dg), .second, .val (.int sh), .val (.int pt), .val (.int ps), .val (.int ij_), .val (.long v6_1), .second, .val (.int v8_2), .val (.int v9_3), .val (.int m4), .val (.int m6), .val (.int v12_9), .val (.int v13_10), .val (.int m11), .val (.int v15_13), .unset, .unset, .unset, .unset, .unset, .unset, .unset, .unset, .unset, .unset, .unset] [] := Own.icmpNo r at_128 (teq br16).2
        replace r : A0 l Z n0 D h 0 0 132 #[.val (.long dg), .second, .val (.int sh), .val (.int pt), .val (.int ps), .val (.int ij_), .val (.long v6_1), .second, .val (.int v8_2), .val (.int v9_3), .val (.int m4), .val (.int m6), .val (.int v12_9), .val (.int v13_10), .val (.int m11), .val (.int v15_13), .unset, .unset, .unset, .unset, .unset, .unset, .unset, .unset, .unset, .unset, .unset] [(.int (1 : Int32))] := Own.iconst r at_131 rfl
        replace r : A0 l Z n0 D h 0 0 136 #[.val (.long dg), .second, .val (.int sh), .val (.int pt), .val (.int ps), .val (.int ij_), .val (.long v6_1), .second, .val (.int v8_2), .val (.int v9_3), .val (.int m4), .val (.int m6), .val (.int v12_9), .val (.int v13_10), .val (.int m11), .val (.int v15_13), .unset, .unset, .unset, .unset, .unset, .unset, .unset, .unset, .unset, .unset, .unset] [(.int (1 : Int32))] := Own.goto r at_132 (by decide) (by decide)
        exact ⟨_, by rw [if_pos br15, if_pos br16], r⟩
      · skip
        replace r : A0 l Z n0 D h 0 0 135 #[.val (.long dg), .second, .val (.int sh), .val (.int pt), .val (.int ps), .val (.int ij_), .val (.long v6_1), .second, .val (.int v8_2), .val (.int v9_3), .val (.int m4), .val (.int m6), .val (.int v12_9), .val (.int v13_10), .val (.int m11), .val (.int v15_13), .unset, .unset, .unset, .unset, .unset, .unset, .unset, .unset, .unset, .unset, .unset] [] := Own.icmpYes r at_128 (feq br16).2 (by decide) (by decide)
        replace r : A0 l Z n0 D h 0 0 136 #[.val (.long dg), .second, .val (.int sh), .val (.int pt), .val (.int ps), .val (.int ij_), .val (.long v6_1), .second, .val (.int v8_2), .val (.int v9_3), .val (.int m4), .val (.int m6), .val (.int v12_9), .val (.int v13_10), .val (.int m11), .val (.int v15_13), .unset, .unset, .unset, .unset, .unset, .unset, .unset, .unset, .unset, .unset, .unset] [(.int (0 : Int32))] := Own.iconst r at_135 rfl
        exact ⟨_, by rw [if_pos br15, if_neg br16], r⟩
    · skip
      replace r : A0 l Z n0 D h 0 0 117 #[.val (.long dg), .second, .val (.int sh), .val (.int pt), .val (.int ps), .val (.int ij_), .val (.long v6_1), .second, .val (.int v8_2), .val (.int v9_3), .val (.int m4), .val (.int m6), .val (.int v12_9), .val (.int v13_10), .val (.int m11), .val (.int v15_13), .unset, .unset, .unset, .unset, .unset, .unset, .unset, .unset, .unset, .unset, .unset] [] := Own.icmpNo r at_114 (flt br15).1
      replace r : A0 l Z n0 D h 0 0 119 #[.val (.long dg), .second, .val (.int sh), .val (.int pt), .val (.int ps), .val (.int ij_), .val (.long v6_1), .second, .val (.int v8_2), .val (.int v9_3), .val (.int m4), .val (.int m6), .val (.int v12_9), .val (.int v13_10), .val (.int m11), .val (.int v15_13), .unset, .unset, .unset, .unset, .unset, .unset, .unset, .unset, .unset, .unset, .unset] [(.int v15_13)] := Own.iload r at_117 rfl
      replace r : A0 l Z n0 D h 0 0 121 #[.val (.long dg), .second, .val (.int sh), .val (.int pt), .val (.int ps), .val (.int ij_), .val (.long v6_1), .second, .val (.int v8_2), .val (.int v9_3), .val (.int m4), .val (.int m6), .val (.int v12_9), .val (.int v13_10), .val (.int m11), .val (.int v15_13), .unset, .unset, .unset, .unset, .unset, .unset, .unset, .unset, .unset, .unset, .unset] [(.int (57 : Int32)), (.int v15_13)] := Own.bipush r at_119 rfl
      by_cases br17 : (57 : Int32) < v15_13
      · skip
        replace r : A0 l Z n0 D h 0 0 124 #[.val (.long dg), .second, .val (.int sh), .val (.int pt), .val (.int ps), .val (.int ij_), .val (.long v6_1), .second, .val (.int v8_2), .val (.int v9_3), .val (.int m4), .val (.int m6), .val (.int v12_9), .val (.int v13_10), .val (.int m11), .val (.int v15_13), .unset, .unset, .unset, .unset, .unset, .unset, .unset, .unset, .unset, .unset, .unset] [] := Own.icmpNo r at_121 (tlt br17).2.2.2
        replace r : A0 l Z n0 D h 0 0 126 #[.val (.long dg), .second, .val (.int sh), .val (.int pt), .val (.int ps), .val (.int ij_), .val (.long v6_1), .second, .val (.int v8_2), .val (.int v9_3), .val (.int m4), .val (.int m6), .val (.int v12_9), .val (.int v13_10), .val (.int m11), .val (.int v15_13), .unset, .unset, .unset, .unset, .unset, .unset, .unset, .unset, .unset, .unset, .unset] [(.int v15_13)] := Own.iload r at_124 rfl
        replace r : A0 l Z n0 D h 0 0 128 #[.val (.long dg), .second, .val (.int sh), .val (.int pt), .val (.int ps), .val (.int ij_), .val (.long v6_1), .second, .val (.int v8_2), .val (.int v9_3), .val (.int m4), .val (.int m6), .val (.int v12_9), .val (.int v13_10), .val (.int m11), .val (.int v15_13), .unset, .unset, .unset, .unset, .unset, .unset, .unset, .unset, .unset, .unset, .unset] [(.int (46 : Int32)), (.int v15_13)] := Own.bipush r at_126 rfl
        by_cases br18 : v15_13 = (46 : Int32)
        · skip
          replace r : A0 l Z n0 D h 0 0 131 #[.val (.long dg), .second, .val (.int sh), .val (.int pt), .val (.int ps), .val (.int ij_), .val (.long v6_1), .second, .val (.int v8_2), .val (.int v9_3), .val (.int m4), .val (.int m6), .val (.int v12_9), .val (.int v13_10), .val (.int m11), .val (.int v15_13), .unset, .unset, .unset, .unset, .unset, .unset, .unset, .unset, .unset, .unset, .unset] [] := Own.icmpNo r at_128 (teq br18).2
          replace r : A0 l Z n0 D h 0 0 132 #[.val (.long dg), .second, .val (.int sh), .val (.int pt), .val (.int ps), .val (.int ij_), .val (.long v6_1), .second, .val (.int v8_2), .val (.int v9_3), .val (.int m4), .val (.int m6), .val (.int v12_9), .val (.int v13_10), .val (.int m11), .val (.int v15_13), .unset, .unset, .unset, .unset, .unset, .unset, .unset, .unset, .unset, .unset, .unset] [(.int (1 : Int32))] := Own.iconst r at_131 rfl
          replace r : A0 l Z n0 D h 0 0 136 #[.val (.long dg), .second, .val (.int sh), .val (.int pt), .val (.int ps), .val (.int ij_), .val (.long v6_1), .second, .val (.int v8_2), .val (.int v9_3), .val (.int m4), .val (.int m6), .val (.int v12_9), .val (.int v13_10), .val (.int m11), .val (.int v15_13), .unset, .unset, .unset, .unset, .unset, .unset, .unset, .unset, .unset, .unset, .unset] [(.int (1 : Int32))] := Own.goto r at_132 (by decide) (by decide)
          exact ⟨_, by rw [if_neg br15, if_pos br17, if_pos br18], r⟩
        · skip
          replace r : A0 l Z n0 D h 0 0 135 #[.val (.long dg), .second, .val (.int sh), .val (.int pt), .val (.int ps), .val (.int ij_), .val (.long v6_1), .second, .val (.int v8_2), .val (.int v9_3), .val (.int m4), .val (.int m6), .val (.int v12_9), .val (.int v13_10), .val (.int m11), .val (.int v15_13), .unset, .unset, .unset, .unset, .unset, .unset, .unset, .unset, .unset, .unset, .unset] [] := Own.icmpYes r at_128 (feq br18).2 (by decide) (by decide)
          replace r : A0 l Z n0 D h 0 0 136 #[.val (.long dg), .second, .val (.int sh), .val (.int pt), .val (.int ps), .val (.int ij_), .val (.long v6_1), .second, .val (.int v8_2), .val (.int v9_3), .val (.int m4), .val (.int m6), .val (.int v12_9), .val (.int v13_10), .val (.int m11), .val (.int v15_13), .unset, .unset, .unset, .unset, .unset, .unset, .unset, .unset, .unset, .unset, .unset] [(.int (0 : Int32))] := Own.iconst r at_135 rfl
          exact ⟨_, by rw [if_neg br15, if_pos br17, if_neg br18], r⟩
      · skip
        replace r : A0 l Z n0 D h 0 0 131 #[.val (.long dg), .second, .val (.int sh), .val (.int pt), .val (.int ps), .val (.int ij_), .val (.long v6_1), .second, .val (.int v8_2), .val (.int v9_3), .val (.int m4), .val (.int m6), .val (.int v12_9), .val (.int v13_10), .val (.int m11), .val (.int v15_13), .unset, .unset, .unset, .unset, .unset, .unset, .unset, .unset, .unset, .unset, .unset] [] := Own.icmpYes r at_121 (flt br17).2.2.2 (by decide) (by decide)
        replace r : A0 l Z n0 D h 0 0 132 #[.val (.long dg), .second, .val (.int sh), .val (.int pt), .val (.int ps), .val (.int ij_), .val (.long v6_1), .second, .val (.int v8_2), .val (.int v9_3), .val (.int m4), .val (.int m6), .val (.int v12_9), .val (.int v13_10), .val (.int m11), .val (.int v15_13), .unset, .unset, .unset, .unset, .unset, .unset, .unset, .unset, .unset, .unset, .unset] [(.int (1 : Int32))] := Own.iconst r at_131 rfl
        replace r : A0 l Z n0 D h 0 0 136 #[.val (.long dg), .second, .val (.int sh), .val (.int pt), .val (.int ps), .val (.int ij_), .val (.long v6_1), .second, .val (.int v8_2), .val (.int v9_3), .val (.int m4), .val (.int m6), .val (.int v12_9), .val (.int v13_10), .val (.int m11), .val (.int v15_13), .unset, .unset, .unset, .unset, .unset, .unset, .unset, .unset, .unset, .unset, .unset] [(.int (1 : Int32))] := Own.goto r at_132 (by decide) (by decide)
        exact ⟨_, by rw [if_neg br15, if_neg br17], r⟩
  replace r : A0 l Z n0 D h 0 0 138 #[.val (.long dg), .second, .val (.int sh), .val (.int pt), .val (.int ps), .val (.int ij_), .val (.long v6_1), .second, .val (.int v8_2), .val (.int v9_3), .val (.int m4), .val (.int m6), .val (.int v12_9), .val (.int v13_10), .val (.int m11), .val (.int v15_13), .val (.int m14), .unset, .unset, .unset, .unset, .unset, .unset, .unset, .unset, .unset, .unset] [] := Own.istore r at_136 rfl
  replace r : A0 l Z n0 D h 0 0 140 #[.val (.long dg), .second, .val (.int sh), .val (.int pt), .val (.int ps), .val (.int ij_), .val (.long v6_1), .second, .val (.int v8_2), .val (.int v9_3), .val (.int m4), .val (.int m6), .val (.int v12_9), .val (.int v13_10), .val (.int m11), .val (.int v15_13), .val (.int m14), .unset, .unset, .unset, .unset, .unset, .unset, .unset, .unset, .unset, .unset] [(.int v8_2)] := Own.iload r at_138 rfl
  obtain ⟨m19, e_m19, r⟩ : ∃ (m19 : Int32), m19 = (if (0 : Int32) < v8_2 then (if v13_10 = (1 : Int32) then (if m14 = (0 : Int32) then (1 : Int32) else (if v13_10 = (2 : Int32) then (if m6 < (0 : Int32) then (0 : Int32) else (if m11 = m6 then (0 : Int32) else (1 : Int32))) else (0 : Int32))) else (if v13_10 = (2 : Int32) then (if m6 < (0 : Int32) then (0 : Int32) else (if m11 = m6 then (0 : Int32) else (1 : Int32))) else (0 : Int32))) else (0 : Int32)) ∧ A0 l Z n0 D h 0 0 177 #[.val (.long dg), .second, .val (.int sh), .val (.int pt), .val (.int ps), .val (.int ij_), .val (.long v6_1), .second, .val (.int v8_2), .val (.int v9_3), .val (.int m4), .val (.int m6), .val (.int v12_9), .val (.int v13_10), .val (.int m11), .val (.int v15_13), .val (.int m14), .unset, .unset, .unset, .unset, .unset, .unset, .unset, .unset, .unset, .unset] [(.int m19)] := by
    by_cases br20 : (0 : Int32) < v8_2
    · skip
      replace r : A0 l Z n0 D h 0 0 143 #[.val (.long dg), .second, .val (.int sh), .val (.int pt), .val (.int ps), .val (.int ij_), .val (.long v6_1), .second, .val (.int v8_2), .val (.int v9_3), .val (.int m4), .val (.int m6), .val (.int v12_9), .val (.int v13_10), .val (.int m11), .val (.int v15_13), .val (.int m14), .unset, .unset, .unset, .unset, .unset, .unset, .unset, .unset, .unset, .unset] [] := Own.ifNo r at_140 ((if0 _ _).trans (tlt br20).2.2.2)
      replace r : A0 l Z n0 D h 0 0 145 #[.val (.long dg), .second, .val (.int sh), .val (.int pt), .val (.int ps), .val (.int ij_), .val (.long v6_1), .second, .val (.int v8_2), .val (.int v9_3), .val (.int m4), .val (.int m6), .val (.int v12_9), .val (.int v13_10), .val (.int m11), .val (.int v15_13), .val (.int m14), .unset, .unset, .unset, .unset, .unset, .unset, .unset, .unset, .unset, .unset] [(.int v13_10)] := Own.iload r at_143 rfl
      replace r : A0 l Z n0 D h 0 0 146 #[.val (.long dg), .second, .val (.int sh), .val (.int pt), .val (.int ps), .val (.int ij_), .val (.long v6_1), .second, .val (.int v8_2), .val (.int v9_3), .val (.int m4), .val (.int m6), .val (.int v12_9), .val (.int v13_10), .val (.int m11), .val (.int v15_13), .val (.int m14), .unset, .unset, .unset, .unset, .unset, .unset, .unset, .unset, .unset, .unset] [(.int (1 : Int32)), (.int v13_10)] := Own.iconst r at_145 rfl
      by_cases br21 : v13_10 = (1 : Int32)
      · skip
        replace r : A0 l Z n0 D h 0 0 149 #[.val (.long dg), .second, .val (.int sh), .val (.int pt), .val (.int ps), .val (.int ij_), .val (.long v6_1), .second, .val (.int v8_2), .val (.int v9_3), .val (.int m4), .val (.int m6), .val (.int v12_9), .val (.int v13_10), .val (.int m11), .val (.int v15_13), .val (.int m14), .unset, .unset, .unset, .unset, .unset, .unset, .unset, .unset, .unset, .unset] [] := Own.icmpNo r at_146 (teq br21).2
        replace r : A0 l Z n0 D h 0 0 151 #[.val (.long dg), .second, .val (.int sh), .val (.int pt), .val (.int ps), .val (.int ij_), .val (.long v6_1), .second, .val (.int v8_2), .val (.int v9_3), .val (.int m4), .val (.int m6), .val (.int v12_9), .val (.int v13_10), .val (.int m11), .val (.int v15_13), .val (.int m14), .unset, .unset, .unset, .unset, .unset, .unset, .unset, .unset, .unset, .unset] [(.int m14)] := Own.iload r at_149 rfl
        by_cases br22 : m14 = (0 : Int32)
        · skip
          replace r : A0 l Z n0 D h 0 0 172 #[.val (.long dg), .second, .val (.int sh), .val (.int pt), .val (.int ps), .val (.int ij_), .val (.long v6_1), .second, .val (.int v8_2), .val (.int v9_3), .val (.int m4), .val (.int m6), .val (.int v12_9), .val (.int v13_10), .val (.int m11), .val (.int v15_13), .val (.int m14), .unset, .unset, .unset, .unset, .unset, .unset, .unset, .unset, .unset, .unset] [] := Own.ifYes r at_151 ((if0 _ _).trans (teq br22).1) (by decide) (by decide)
          replace r : A0 l Z n0 D h 0 0 173 #[.val (.long dg), .second, .val (.int sh), .val (.int pt), .val (.int ps), .val (.int ij_), .val (.long v6_1), .second, .val (.int v8_2), .val (.int v9_3), .val (.int m4), .val (.int m6), .val (.int v12_9), .val (.int v13_10), .val (.int m11), .val (.int v15_13), .val (.int m14), .unset, .unset, .unset, .unset, .unset, .unset, .unset, .unset, .unset, .unset] [(.int (1 : Int32))] := Own.iconst r at_172 rfl
          replace r : A0 l Z n0 D h 0 0 177 #[.val (.long dg), .second, .val (.int sh), .val (.int pt), .val (.int ps), .val (.int ij_), .val (.long v6_1), .second, .val (.int v8_2), .val (.int v9_3), .val (.int m4), .val (.int m6), .val (.int v12_9), .val (.int v13_10), .val (.int m11), .val (.int v15_13), .val (.int m14), .unset, .unset, .unset, .unset, .unset, .unset, .unset, .unset, .unset, .unset] [(.int (1 : Int32))] := Own.goto r at_173 (by decide) (by decide)
          exact ⟨_, by rw [if_pos br20, if_pos br21, if_pos br22], r⟩
        · skip
          replace r : A0 l Z n0 D h 0 0 154 #[.val (.long dg), .second, .val (.int sh), .val (.int pt), .val (.int ps), .val (.int ij_), .val (.long v6_1), .second, .val (.int v8_2), .val (.int v9_3), .val (.int m4), .val (.int m6), .val (.int v12_9), .val (.int v13_10), .val (.int m11), .val (.int v15_13), .val (.int m14), .unset, .unset, .unset, .unset, .unset, .unset, .unset, .unset, .unset, .unset] [] := Own.ifNo r at_151 ((if0 _ _).trans (feq br22).1)
          replace r : A0 l Z n0 D h 0 0 156 #[.val (.long dg), .second, .val (.int sh), .val (.int pt), .val (.int ps), .val (.int ij_), .val (.long v6_1), .second, .val (.int v8_2), .val (.int v9_3), .val (.int m4), .val (.int m6), .val (.int v12_9), .val (.int v13_10), .val (.int m11), .val (.int v15_13), .val (.int m14), .unset, .unset, .unset, .unset, .unset, .unset, .unset, .unset, .unset, .unset] [(.int v13_10)] := Own.iload r at_154 rfl
          replace r : A0 l Z n0 D h 0 0 157 #[.val (.long dg), .second, .val (.int sh), .val (.int pt), .val (.int ps), .val (.int ij_), .val (.long v6_1), .second, .val (.int v8_2), .val (.int v9_3), .val (.int m4), .val (.int m6), .val (.int v12_9), .val (.int v13_10), .val (.int m11), .val (.int v15_13), .val (.int m14), .unset, .unset, .unset, .unset, .unset, .unset, .unset, .unset, .unset, .unset] [(.int (2 : Int32)), (.int v13_10)] := Own.iconst r at_156 rfl
          by_cases br23 : v13_10 = (2 : Int32)
          · skip
            replace r : A0 l Z n0 D h 0 0 160 #[.val (.long dg), .second, .val (.int sh), .val (.int pt), .val (.int ps), .val (.int ij_), .val (.long v6_1), .second, .val (.int v8_2), .val (.int v9_3), .val (.int m4), .val (.int m6), .val (.int v12_9), .val (.int v13_10), .val (.int m11), .val (.int v15_13), .val (.int m14), .unset, .unset, .unset, .unset, .unset, .unset, .unset, .unset, .unset, .unset] [] := Own.icmpNo r at_157 (teq br23).2
            replace r : A0 l Z n0 D h 0 0 162 #[.val (.long dg), .second, .val (.int sh), .val (.int pt), .val (.int ps), .val (.int ij_), .val (.long v6_1), .second, .val (.int v8_2), .val (.int v9_3), .val (.int m4), .val (.int m6), .val (.int v12_9), .val (.int v13_10), .val (.int m11), .val (.int v15_13), .val (.int m14), .unset, .unset, .unset, .unset, .unset, .unset, .unset, .unset, .unset, .unset] [(.int m6)] := Own.iload r at_160 rfl
            by_cases br24 : m6 < (0 : Int32)
            · skip
              replace r : A0 l Z n0 D h 0 0 176 #[.val (.long dg), .second, .val (.int sh), .val (.int pt), .val (.int ps), .val (.int ij_), .val (.long v6_1), .second, .val (.int v8_2), .val (.int v9_3), .val (.int m4), .val (.int m6), .val (.int v12_9), .val (.int v13_10), .val (.int m11), .val (.int v15_13), .val (.int m14), .unset, .unset, .unset, .unset, .unset, .unset, .unset, .unset, .unset, .unset] [] := Own.ifYes r at_162 ((if0 _ _).trans (tlt br24).1) (by decide) (by decide)
              replace r : A0 l Z n0 D h 0 0 177 #[.val (.long dg), .second, .val (.int sh), .val (.int pt), .val (.int ps), .val (.int ij_), .val (.long v6_1), .second, .val (.int v8_2), .val (.int v9_3), .val (.int m4), .val (.int m6), .val (.int v12_9), .val (.int v13_10), .val (.int m11), .val (.int v15_13), .val (.int m14), .unset, .unset, .unset, .unset, .unset, .unset, .unset, .unset, .unset, .unset] [(.int (0 : Int32))] := Own.iconst r at_176 rfl
              exact ⟨_, by rw [if_pos br20, if_pos br21, if_neg br22, if_pos br23, if_pos br24], r⟩
            · skip
              replace r : A0 l Z n0 D h 0 0 165 #[.val (.long dg), .second, .val (.int sh), .val (.int pt), .val (.int ps), .val (.int ij_), .val (.long v6_1), .second, .val (.int v8_2), .val (.int v9_3), .val (.int m4), .val (.int m6), .val (.int v12_9), .val (.int v13_10), .val (.int m11), .val (.int v15_13), .val (.int m14), .unset, .unset, .unset, .unset, .unset, .unset, .unset, .unset, .unset, .unset] [] := Own.ifNo r at_162 ((if0 _ _).trans (flt br24).1)
              replace r : A0 l Z n0 D h 0 0 167 #[.val (.long dg), .second, .val (.int sh), .val (.int pt), .val (.int ps), .val (.int ij_), .val (.long v6_1), .second, .val (.int v8_2), .val (.int v9_3), .val (.int m4), .val (.int m6), .val (.int v12_9), .val (.int v13_10), .val (.int m11), .val (.int v15_13), .val (.int m14), .unset, .unset, .unset, .unset, .unset, .unset, .unset, .unset, .unset, .unset] [(.int m11)] := Own.iload r at_165 rfl
              replace r : A0 l Z n0 D h 0 0 169 #[.val (.long dg), .second, .val (.int sh), .val (.int pt), .val (.int ps), .val (.int ij_), .val (.long v6_1), .second, .val (.int v8_2), .val (.int v9_3), .val (.int m4), .val (.int m6), .val (.int v12_9), .val (.int v13_10), .val (.int m11), .val (.int v15_13), .val (.int m14), .unset, .unset, .unset, .unset, .unset, .unset, .unset, .unset, .unset, .unset] [(.int m6), (.int m11)] := Own.iload r at_167 rfl
              by_cases br25 : m11 = m6
              · skip
                replace r : A0 l Z n0 D h 0 0 176 #[.val (.long dg), .second, .val (.int sh), .val (.int pt), .val (.int ps), .val (.int ij_), .val (.long v6_1), .second, .val (.int v8_2), .val (.int v9_3), .val (.int m4), .val (.int m6), .val (.int v12_9), .val (.int v13_10), .val (.int m11), .val (.int v15_13), .val (.int m14), .unset, .unset, .unset, .unset, .unset, .unset, .unset, .unset, .unset, .unset] [] := Own.icmpYes r at_169 (teq br25).1 (by decide) (by decide)
                replace r : A0 l Z n0 D h 0 0 177 #[.val (.long dg), .second, .val (.int sh), .val (.int pt), .val (.int ps), .val (.int ij_), .val (.long v6_1), .second, .val (.int v8_2), .val (.int v9_3), .val (.int m4), .val (.int m6), .val (.int v12_9), .val (.int v13_10), .val (.int m11), .val (.int v15_13), .val (.int m14), .unset, .unset, .unset, .unset, .unset, .unset, .unset, .unset, .unset, .unset] [(.int (0 : Int32))] := Own.iconst r at_176 rfl
                exact ⟨_, by rw [if_pos br20, if_pos br21, if_neg br22, if_pos br23, if_neg br24, if_pos br25], r⟩
              · skip
                replace r : A0 l Z n0 D h 0 0 172 #[.val (.long dg), .second, .val (.int sh), .val (.int pt), .val (.int ps), .val (.int ij_), .val (.long v6_1), .second, .val (.int v8_2), .val (.int v9_3), .val (.int m4), .val (.int m6), .val (.int v12_9), .val (.int v13_10), .val (.int m11), .val (.int v15_13), .val (.int m14), .unset, .unset, .unset, .unset, .unset, .unset, .unset, .unset, .unset, .unset] [] := Own.icmpNo r at_169 (feq br25).1
                replace r : A0 l Z n0 D h 0 0 173 #[.val (.long dg), .second, .val (.int sh), .val (.int pt), .val (.int ps), .val (.int ij_), .val (.long v6_1), .second, .val (.int v8_2), .val (.int v9_3), .val (.int m4), .val (.int m6), .val (.int v12_9), .val (.int v13_10), .val (.int m11), .val (.int v15_13), .val (.int m14), .unset, .unset, .unset, .unset, .unset, .unset, .unset, .unset, .unset, .unset] [(.int (1 : Int32))] := Own.iconst r at_172 rfl
                replace r : A0 l Z n0 D h 0 0 177 #[.val (.long dg), .second, .val (.int sh), .val (.int pt), .val (.int ps), .val (.int ij_), .val (.long v6_1), .second, .val (.int v8_2), .val (.int v9_3), .val (.int m4), .val (.int m6), .val (.int v12_9), .val (.int v13_10), .val (.int m11), .val (.int v15_13), .val (.int m14), .unset, .unset, .unset, .unset, .unset, .unset, .unset, .unset, .unset, .unset] [(.int (1 : Int32))] := Own.goto r at_173 (by decide) (by decide)
                exact ⟨_, by rw [if_pos br20, if_pos br21, if_neg br22, if_pos br23, if_neg br24, if_neg br25], r⟩
          · skip
            replace r : A0 l Z n0 D h 0 0 176 #[.val (.long dg), .second, .val (.int sh), .val (.int pt), .val (.int ps), .val (.int ij_), .val (.long v6_1), .second, .val (.int v8_2), .val (.int v9_3), .val (.int m4), .val (.int m6), .val (.int v12_9), .val (.int v13_10), .val (.int m11), .val (.int v15_13), .val (.int m14), .unset, .unset, .unset, .unset, .unset, .unset, .unset, .unset, .unset, .unset] [] := Own.icmpYes r at_157 (feq br23).2 (by decide) (by decide)
            replace r : A0 l Z n0 D h 0 0 177 #[.val (.long dg), .second, .val (.int sh), .val (.int pt), .val (.int ps), .val (.int ij_), .val (.long v6_1), .second, .val (.int v8_2), .val (.int v9_3), .val (.int m4), .val (.int m6), .val (.int v12_9), .val (.int v13_10), .val (.int m11), .val (.int v15_13), .val (.int m14), .unset, .unset, .unset, .unset, .unset, .unset, .unset, .unset, .unset, .unset] [(.int (0 : Int32))] := Own.iconst r at_176 rfl
            exact ⟨_, by rw [if_pos br20, if_pos br21, if_neg br22, if_neg br23], r⟩
      · skip
        replace r : A0 l Z n0 D h 0 0 154 #[.val (.long dg), .second, .val (.int sh), .val (.int pt), .val (.int ps), .val (.int ij_), .val (.long v6_1), .second, .val (.int v8_2), .val (.int v9_3), .val (.int m4), .val (.int m6), .val (.int v12_9), .val (.int v13_10), .val (.int m11), .val (.int v15_13), .val (.int m14), .unset, .unset, .unset, .unset, .unset, .unset, .unset, .unset, .unset, .unset] [] := Own.icmpYes r at_146 (feq br21).2 (by decide) (by decide)
        replace r : A0 l Z n0 D h 0 0 156 #[.val (.long dg), .second, .val (.int sh), .val (.int pt), .val (.int ps), .val (.int ij_), .val (.long v6_1), .second, .val (.int v8_2), .val (.int v9_3), .val (.int m4), .val (.int m6), .val (.int v12_9), .val (.int v13_10), .val (.int m11), .val (.int v15_13), .val (.int m14), .unset, .unset, .unset, .unset, .unset, .unset, .unset, .unset, .unset, .unset] [(.int v13_10)] := Own.iload r at_154 rfl
        replace r : A0 l Z n0 D h 0 0 157 #[.val (.long dg), .second, .val (.int sh), .val (.int pt), .val (.int ps), .val (.int ij_), .val (.long v6_1), .second, .val (.int v8_2), .val (.int v9_3), .val (.int m4), .val (.int m6), .val (.int v12_9), .val (.int v13_10), .val (.int m11), .val (.int v15_13), .val (.int m14), .unset, .unset, .unset, .unset, .unset, .unset, .unset, .unset, .unset, .unset] [(.int (2 : Int32)), (.int v13_10)] := Own.iconst r at_156 rfl
        by_cases br26 : v13_10 = (2 : Int32)
        · skip
          replace r : A0 l Z n0 D h 0 0 160 #[.val (.long dg), .second, .val (.int sh), .val (.int pt), .val (.int ps), .val (.int ij_), .val (.long v6_1), .second, .val (.int v8_2), .val (.int v9_3), .val (.int m4), .val (.int m6), .val (.int v12_9), .val (.int v13_10), .val (.int m11), .val (.int v15_13), .val (.int m14), .unset, .unset, .unset, .unset, .unset, .unset, .unset, .unset, .unset, .unset] [] := Own.icmpNo r at_157 (teq br26).2
          replace r : A0 l Z n0 D h 0 0 162 #[.val (.long dg), .second, .val (.int sh), .val (.int pt), .val (.int ps), .val (.int ij_), .val (.long v6_1), .second, .val (.int v8_2), .val (.int v9_3), .val (.int m4), .val (.int m6), .val (.int v12_9), .val (.int v13_10), .val (.int m11), .val (.int v15_13), .val (.int m14), .unset, .unset, .unset, .unset, .unset, .unset, .unset, .unset, .unset, .unset] [(.int m6)] := Own.iload r at_160 rfl
          by_cases br27 : m6 < (0 : Int32)
          · skip
            replace r : A0 l Z n0 D h 0 0 176 #[.val (.long dg), .second, .val (.int sh), .val (.int pt), .val (.int ps), .val (.int ij_), .val (.long v6_1), .second, .val (.int v8_2), .val (.int v9_3), .val (.int m4), .val (.int m6), .val (.int v12_9), .val (.int v13_10), .val (.int m11), .val (.int v15_13), .val (.int m14), .unset, .unset, .unset, .unset, .unset, .unset, .unset, .unset, .unset, .unset] [] := Own.ifYes r at_162 ((if0 _ _).trans (tlt br27).1) (by decide) (by decide)
            replace r : A0 l Z n0 D h 0 0 177 #[.val (.long dg), .second, .val (.int sh), .val (.int pt), .val (.int ps), .val (.int ij_), .val (.long v6_1), .second, .val (.int v8_2), .val (.int v9_3), .val (.int m4), .val (.int m6), .val (.int v12_9), .val (.int v13_10), .val (.int m11), .val (.int v15_13), .val (.int m14), .unset, .unset, .unset, .unset, .unset, .unset, .unset, .unset, .unset, .unset] [(.int (0 : Int32))] := Own.iconst r at_176 rfl
            exact ⟨_, by rw [if_pos br20, if_neg br21, if_pos br26, if_pos br27], r⟩
          · skip
            replace r : A0 l Z n0 D h 0 0 165 #[.val (.long dg), .second, .val (.int sh), .val (.int pt), .val (.int ps), .val (.int ij_), .val (.long v6_1), .second, .val (.int v8_2), .val (.int v9_3), .val (.int m4), .val (.int m6), .val (.int v12_9), .val (.int v13_10), .val (.int m11), .val (.int v15_13), .val (.int m14), .unset, .unset, .unset, .unset, .unset, .unset, .unset, .unset, .unset, .unset] [] := Own.ifNo r at_162 ((if0 _ _).trans (flt br27).1)
            replace r : A0 l Z n0 D h 0 0 167 #[.val (.long dg), .second, .val (.int sh), .val (.int pt), .val (.int ps), .val (.int ij_), .val (.long v6_1), .second, .val (.int v8_2), .val (.int v9_3), .val (.int m4), .val (.int m6), .val (.int v12_9), .val (.int v13_10), .val (.int m11), .val (.int v15_13), .val (.int m14), .unset, .unset, .unset, .unset, .unset, .unset, .unset, .unset, .unset, .unset] [(.int m11)] := Own.iload r at_165 rfl
            replace r : A0 l Z n0 D h 0 0 169 #[.val (.long dg), .second, .val (.int sh), .val (.int pt), .val (.int ps), .val (.int ij_), .val (.long v6_1), .second, .val (.int v8_2), .val (.int v9_3), .val (.int m4), .val (.int m6), .val (.int v12_9), .val (.int v13_10), .val (.int m11), .val (.int v15_13), .val (.int m14), .unset, .unset, .unset, .unset, .unset, .unset, .unset, .unset, .unset, .unset] [(.int m6), (.int m11)] := Own.iload r at_167 rfl
            by_cases br28 : m11 = m6
            · skip
              replace r : A0 l Z n0 D h 0 0 176 #[.val (.long dg), .second, .val (.int sh), .val (.int pt), .val (.int ps), .val (.int ij_), .val (.long v6_1), .second, .val (.int v8_2), .val (.int v9_3), .val (.int m4), .val (.int m6), .val (.int v12_9), .val (.int v13_10), .val (.int m11), .val (.int v15_13), .val (.int m14), .unset, .unset, .unset, .unset, .unset, .unset, .unset, .unset, .unset, .unset] [] := Own.icmpYes r at_169 (teq br28).1 (by decide) (by decide)
              replace r : A0 l Z n0 D h 0 0 177 #[.val (.long dg), .second, .val (.int sh), .val (.int pt), .val (.int ps), .val (.int ij_), .val (.long v6_1), .second, .val (.int v8_2), .val (.int v9_3), .val (.int m4), .val (.int m6), .val (.int v12_9), .val (.int v13_10), .val (.int m11), .val (.int v15_13), .val (.int m14), .unset, .unset, .unset, .unset, .unset, .unset, .unset, .unset, .unset, .unset] [(.int (0 : Int32))] := Own.iconst r at_176 rfl
              exact ⟨_, by rw [if_pos br20, if_neg br21, if_pos br26, if_neg br27, if_pos br28], r⟩
            · skip
              replace r : A0 l Z n0 D h 0 0 172 #[.val (.long dg), .second, .val (.int sh), .val (.int pt), .val (.int ps), .val (.int ij_), .val (.long v6_1), .second, .val (.int v8_2), .val (.int v9_3), .val (.int m4), .val (.int m6), .val (.int v12_9), .val (.int v13_10), .val (.int m11), .val (.int v15_13), .val (.int m14), .unset, .unset, .unset, .unset, .unset, .unset, .unset, .unset, .unset, .unset] [] := Own.icmpNo r at_169 (feq br28).1
              replace r : A0 l Z n0 D h 0 0 173 #[.val (.long dg), .second, .val (.int sh), .val (.int pt), .val (.int ps), .val (.int ij_), .val (.long v6_1), .second, .val (.int v8_2), .val (.int v9_3), .val (.int m4), .val (.int m6), .val (.int v12_9), .val (.int v13_10), .val (.int m11), .val (.int v15_13), .val (.int m14), .unset, .unset, .unset, .unset, .unset, .unset, .unset, .unset, .unset, .unset] [(.int (1 : Int32))] := Own.iconst r at_172 rfl
              replace r : A0 l Z n0 D h 0 0 177 #[.val (.long dg), .second, .val (.int sh), .val (.int pt), .val (.int ps), .val (.int ij_), .val (.long v6_1), .second, .val (.int v8_2), .val (.int v9_3), .val (.int m4), .val (.int m6), .val (.int v12_9), .val (.int v13_10), .val (.int m11), .val (.int v15_13), .val (.int m14), .unset, .unset, .unset, .unset, .unset, .unset, .unset, .unset, .unset, .unset] [(.int (1 : Int32))] := Own.goto r at_173 (by decide) (by decide)
              exact ⟨_, by rw [if_pos br20, if_neg br21, if_pos br26, if_neg br27, if_neg br28], r⟩
        · skip
          replace r : A0 l Z n0 D h 0 0 176 #[.val (.long dg), .second, .val (.int sh), .val (.int pt), .val (.int ps), .val (.int ij_), .val (.long v6_1), .second, .val (.int v8_2), .val (.int v9_3), .val (.int m4), .val (.int m6), .val (.int v12_9), .val (.int v13_10), .val (.int m11), .val (.int v15_13), .val (.int m14), .unset, .unset, .unset, .unset, .unset, .unset, .unset, .unset, .unset, .unset] [] := Own.icmpYes r at_157 (feq br26).2 (by decide) (by decide)
          replace r : A0 l Z n0 D h 0 0 177 #[.val (.long dg), .second, .val (.int sh), .val (.int pt), .val (.int ps), .val (.int ij_), .val (.long v6_1), .second, .val (.int v8_2), .val (.int v9_3), .val (.int m4), .val (.int m6), .val (.int v12_9), .val (.int v13_10), .val (.int m11), .val (.int v15_13), .val (.int m14), .unset, .unset, .unset, .unset, .unset, .unset, .unset, .unset, .unset, .unset] [(.int (0 : Int32))] := Own.iconst r at_176 rfl
          exact ⟨_, by rw [if_pos br20, if_neg br21, if_neg br26], r⟩
    · skip
      replace r : A0 l Z n0 D h 0 0 176 #[.val (.long dg), .second, .val (.int sh), .val (.int pt), .val (.int ps), .val (.int ij_), .val (.long v6_1), .second, .val (.int v8_2), .val (.int v9_3), .val (.int m4), .val (.int m6), .val (.int v12_9), .val (.int v13_10), .val (.int m11), .val (.int v15_13), .val (.int m14), .unset, .unset, .unset, .unset, .unset, .unset, .unset, .unset, .unset, .unset] [] := Own.ifYes r at_140 ((if0 _ _).trans (flt br20).2.2.2) (by decide) (by decide)
      replace r : A0 l Z n0 D h 0 0 177 #[.val (.long dg), .second, .val (.int sh), .val (.int pt), .val (.int ps), .val (.int ij_), .val (.long v6_1), .second, .val (.int v8_2), .val (.int v9_3), .val (.int m4), .val (.int m6), .val (.int v12_9), .val (.int v13_10), .val (.int m11), .val (.int v15_13), .val (.int m14), .unset, .unset, .unset, .unset, .unset, .unset, .unset, .unset, .unset, .unset] [(.int (0 : Int32))] := Own.iconst r at_176 rfl
      exact ⟨_, by rw [if_neg br20], r⟩
  replace r : A0 l Z n0 D h 0 0 179 #[.val (.long dg), .second, .val (.int sh), .val (.int pt), .val (.int ps), .val (.int ij_), .val (.long v6_1), .second, .val (.int v8_2), .val (.int v9_3), .val (.int m4), .val (.int m6), .val (.int v12_9), .val (.int v13_10), .val (.int m11), .val (.int v15_13), .val (.int m14), .val (.int m19), .unset, .unset, .unset, .unset, .unset, .unset, .unset, .unset, .unset] [] := Own.istore r at_177 rfl
  replace r : A0 l Z n0 D h 0 0 181 #[.val (.long dg), .second, .val (.int sh), .val (.int pt), .val (.int ps), .val (.int ij_), .val (.long v6_1), .second, .val (.int v8_2), .val (.int v9_3), .val (.int m4), .val (.int m6), .val (.int v12_9), .val (.int v13_10), .val (.int m11), .val (.int v15_13), .val (.int m14), .val (.int m19), .unset, .unset, .unset, .unset, .unset, .unset, .unset, .unset, .unset] [(.int v13_10)] := Own.iload r at_179 rfl
  replace r : A0 l Z n0 D h 0 0 182 #[.val (.long dg), .second, .val (.int sh), .val (.int pt), .val (.int ps), .val (.int ij_), .val (.long v6_1), .second, .val (.int v8_2), .val (.int v9_3), .val (.int m4), .val (.int m6), .val (.int v12_9), .val (.int v13_10), .val (.int m11), .val (.int v15_13), .val (.int m14), .val (.int m19), .unset, .unset, .unset, .unset, .unset, .unset, .unset, .unset, .unset] [(.int (1 : Int32)), (.int v13_10)] := Own.iconst r at_181 rfl
  obtain ⟨m29, e_m29, r⟩ : ∃ (m29 : Int32), m29 = (if v13_10 = (1 : Int32) then (Own.i2bW v15_13) else (46 : Int32)) ∧ A0 l Z n0 D h 0 0 193 #[.val (.long dg), .second, .val (.int sh), .val (.int pt), .val (.int ps), .val (.int ij_), .val (.long v6_1), .second, .val (.int v8_2), .val (.int v9_3), .val (.int m4), .val (.int m6), .val (.int v12_9), .val (.int v13_10), .val (.int m11), .val (.int v15_13), .val (.int m14), .val (.int m19), .unset, .unset, .unset, .unset, .unset, .unset, .unset, .unset, .unset] [(.int m29)] := by
    by_cases br30 : v13_10 = (1 : Int32)
    · skip
      replace r : A0 l Z n0 D h 0 0 185 #[.val (.long dg), .second, .val (.int sh), .val (.int pt), .val (.int ps), .val (.int ij_), .val (.long v6_1), .second, .val (.int v8_2), .val (.int v9_3), .val (.int m4), .val (.int m6), .val (.int v12_9), .val (.int v13_10), .val (.int m11), .val (.int v15_13), .val (.int m14), .val (.int m19), .unset, .unset, .unset, .unset, .unset, .unset, .unset, .unset, .unset] [] := Own.icmpNo r at_182 (teq br30).2
      replace r : A0 l Z n0 D h 0 0 187 #[.val (.long dg), .second, .val (.int sh), .val (.int pt), .val (.int ps), .val (.int ij_), .val (.long v6_1), .second, .val (.int v8_2), .val (.int v9_3), .val (.int m4), .val (.int m6), .val (.int v12_9), .val (.int v13_10), .val (.int m11), .val (.int v15_13), .val (.int m14), .val (.int m19), .unset, .unset, .unset, .unset, .unset, .unset, .unset, .unset, .unset] [(.int v15_13)] := Own.iload r at_185 rfl
      replace r : A0 l Z n0 D h 0 0 188 #[.val (.long dg), .second, .val (.int sh), .val (.int pt), .val (.int ps), .val (.int ij_), .val (.long v6_1), .second, .val (.int v8_2), .val (.int v9_3), .val (.int m4), .val (.int m6), .val (.int v12_9), .val (.int v13_10), .val (.int m11), .val (.int v15_13), .val (.int m14), .val (.int m19), .unset, .unset, .unset, .unset, .unset, .unset, .unset, .unset, .unset] [(.int (Own.i2bW v15_13))] := Own.i2b r at_187
      replace r : A0 l Z n0 D h 0 0 193 #[.val (.long dg), .second, .val (.int sh), .val (.int pt), .val (.int ps), .val (.int ij_), .val (.long v6_1), .second, .val (.int v8_2), .val (.int v9_3), .val (.int m4), .val (.int m6), .val (.int v12_9), .val (.int v13_10), .val (.int m11), .val (.int v15_13), .val (.int m14), .val (.int m19), .unset, .unset, .unset, .unset, .unset, .unset, .unset, .unset, .unset] [(.int (Own.i2bW v15_13))] := Own.goto r at_188 (by decide) (by decide)
      exact ⟨_, by rw [if_pos br30], r⟩
    · skip
      replace r : A0 l Z n0 D h 0 0 191 #[.val (.long dg), .second, .val (.int sh), .val (.int pt), .val (.int ps), .val (.int ij_), .val (.long v6_1), .second, .val (.int v8_2), .val (.int v9_3), .val (.int m4), .val (.int m6), .val (.int v12_9), .val (.int v13_10), .val (.int m11), .val (.int v15_13), .val (.int m14), .val (.int m19), .unset, .unset, .unset, .unset, .unset, .unset, .unset, .unset, .unset] [] := Own.icmpYes r at_182 (feq br30).2 (by decide) (by decide)
      replace r : A0 l Z n0 D h 0 0 193 #[.val (.long dg), .second, .val (.int sh), .val (.int pt), .val (.int ps), .val (.int ij_), .val (.long v6_1), .second, .val (.int v8_2), .val (.int v9_3), .val (.int m4), .val (.int m6), .val (.int v12_9), .val (.int v13_10), .val (.int m11), .val (.int v15_13), .val (.int m14), .val (.int m19), .unset, .unset, .unset, .unset, .unset, .unset, .unset, .unset, .unset] [(.int (46 : Int32))] := Own.bipush r at_191 rfl
      exact ⟨_, by rw [if_neg br30], r⟩
  replace r : A0 l Z n0 D h 0 0 195 #[.val (.long dg), .second, .val (.int sh), .val (.int pt), .val (.int ps), .val (.int ij_), .val (.long v6_1), .second, .val (.int v8_2), .val (.int v9_3), .val (.int m4), .val (.int m6), .val (.int v12_9), .val (.int v13_10), .val (.int m11), .val (.int v15_13), .val (.int m14), .val (.int m19), .val (.int m29), .unset, .unset, .unset, .unset, .unset, .unset, .unset, .unset] [] := Own.istore r at_193 rfl
  replace r : A0 l Z n0 D h 0 0 197 #[.val (.long dg), .second, .val (.int sh), .val (.int pt), .val (.int ps), .val (.int ij_), .val (.long v6_1), .second, .val (.int v8_2), .val (.int v9_3), .val (.int m4), .val (.int m6), .val (.int v12_9), .val (.int v13_10), .val (.int m11), .val (.int v15_13), .val (.int m14), .val (.int m19), .val (.int m29), .unset, .unset, .unset, .unset, .unset, .unset, .unset, .unset] [(.int m6)] := Own.iload r at_195 rfl
  obtain ⟨m31, e_m31, r⟩ : ∃ (m31 : Int32), m31 = (if m6 < (0 : Int32) then v8_2 else (v8_2 - (1 : Int32))) ∧ A0 l Z n0 D h 0 0 209 #[.val (.long dg), .second, .val (.int sh), .val (.int pt), .val (.int ps), .val (.int ij_), .val (.long v6_1), .second, .val (.int v8_2), .val (.int v9_3), .val (.int m4), .val (.int m6), .val (.int v12_9), .val (.int v13_10), .val (.int m11), .val (.int v15_13), .val (.int m14), .val (.int m19), .val (.int m29), .unset, .unset, .unset, .unset, .unset, .unset, .unset, .unset] [(.int m31)] := by
    by_cases br32 : m6 < (0 : Int32)
    · skip
      replace r : A0 l Z n0 D h 0 0 207 #[.val (.long dg), .second, .val (.int sh), .val (.int pt), .val (.int ps), .val (.int ij_), .val (.long v6_1), .second, .val (.int v8_2), .val (.int v9_3), .val (.int m4), .val (.int m6), .val (.int v12_9), .val (.int v13_10), .val (.int m11), .val (.int v15_13), .val (.int m14), .val (.int m19), .val (.int m29), .unset, .unset, .unset, .unset, .unset, .unset, .unset, .unset] [] := Own.ifYes r at_197 ((if0 _ _).trans (tlt br32).1) (by decide) (by decide)
      replace r : A0 l Z n0 D h 0 0 209 #[.val (.long dg), .second, .val (.int sh), .val (.int pt), .val (.int ps), .val (.int ij_), .val (.long v6_1), .second, .val (.int v8_2), .val (.int v9_3), .val (.int m4), .val (.int m6), .val (.int v12_9), .val (.int v13_10), .val (.int m11), .val (.int v15_13), .val (.int m14), .val (.int m19), .val (.int m29), .unset, .unset, .unset, .unset, .unset, .unset, .unset, .unset] [(.int v8_2)] := Own.iload r at_207 rfl
      exact ⟨_, by rw [if_pos br32], r⟩
    · skip
      replace r : A0 l Z n0 D h 0 0 200 #[.val (.long dg), .second, .val (.int sh), .val (.int pt), .val (.int ps), .val (.int ij_), .val (.long v6_1), .second, .val (.int v8_2), .val (.int v9_3), .val (.int m4), .val (.int m6), .val (.int v12_9), .val (.int v13_10), .val (.int m11), .val (.int v15_13), .val (.int m14), .val (.int m19), .val (.int m29), .unset, .unset, .unset, .unset, .unset, .unset, .unset, .unset] [] := Own.ifNo r at_197 ((if0 _ _).trans (flt br32).1)
      replace r : A0 l Z n0 D h 0 0 202 #[.val (.long dg), .second, .val (.int sh), .val (.int pt), .val (.int ps), .val (.int ij_), .val (.long v6_1), .second, .val (.int v8_2), .val (.int v9_3), .val (.int m4), .val (.int m6), .val (.int v12_9), .val (.int v13_10), .val (.int m11), .val (.int v15_13), .val (.int m14), .val (.int m19), .val (.int m29), .unset, .unset, .unset, .unset, .unset, .unset, .unset, .unset] [(.int v8_2)] := Own.iload r at_200 rfl
      replace r : A0 l Z n0 D h 0 0 203 #[.val (.long dg), .second, .val (.int sh), .val (.int pt), .val (.int ps), .val (.int ij_), .val (.long v6_1), .second, .val (.int v8_2), .val (.int v9_3), .val (.int m4), .val (.int m6), .val (.int v12_9), .val (.int v13_10), .val (.int m11), .val (.int v15_13), .val (.int m14), .val (.int m19), .val (.int m29), .unset, .unset, .unset, .unset, .unset, .unset, .unset, .unset] [(.int (1 : Int32)), (.int v8_2)] := Own.iconst r at_202 rfl
      replace r : A0 l Z n0 D h 0 0 204 #[.val (.long dg), .second, .val (.int sh), .val (.int pt), .val (.int ps), .val (.int ij_), .val (.long v6_1), .second, .val (.int v8_2), .val (.int v9_3), .val (.int m4), .val (.int m6), .val (.int v12_9), .val (.int v13_10), .val (.int m11), .val (.int v15_13), .val (.int m14), .val (.int m19), .val (.int m29), .unset, .unset, .unset, .unset, .unset, .unset, .unset, .unset] [(.int (v8_2 - (1 : Int32)))] := Own.isub r at_203
      replace r : A0 l Z n0 D h 0 0 209 #[.val (.long dg), .second, .val (.int sh), .val (.int pt), .val (.int ps), .val (.int ij_), .val (.long v6_1), .second, .val (.int v8_2), .val (.int v9_3), .val (.int m4), .val (.int m6), .val (.int v12_9), .val (.int v13_10), .val (.int m11), .val (.int v15_13), .val (.int m14), .val (.int m19), .val (.int m29), .unset, .unset, .unset, .unset, .unset, .unset, .unset, .unset] [(.int (v8_2 - (1 : Int32)))] := Own.goto r at_204 (by decide) (by decide)
      exact ⟨_, by rw [if_neg br32], r⟩
  replace r : A0 l Z n0 D h 0 0 211 #[.val (.long dg), .second, .val (.int sh), .val (.int pt), .val (.int ps), .val (.int ij_), .val (.long v6_1), .second, .val (.int v8_2), .val (.int v9_3), .val (.int m4), .val (.int m6), .val (.int v12_9), .val (.int v13_10), .val (.int m11), .val (.int v15_13), .val (.int m14), .val (.int m19), .val (.int m29), .val (.int m31), .unset, .unset, .unset, .unset, .unset, .unset, .unset] [] := Own.istore r at_209 rfl
  replace r : A0 l Z n0 D h 0 0 213 #[.val (.long dg), .second, .val (.int sh), .val (.int pt), .val (.int ps), .val (.int ij_), .val (.long v6_1), .second, .val (.int v8_2), .val (.int v9_3), .val (.int m4), .val (.int m6), .val (.int v12_9), .val (.int v13_10), .val (.int m11), .val (.int v15_13), .val (.int m14), .val (.int m19), .val (.int m29), .val (.int m31), .unset, .unset, .unset, .unset, .unset, .unset, .unset] [(.int m6)] := Own.iload r at_211 rfl
  obtain ⟨m33, e_m33, r⟩ : ∃ (m33 : Int32), m33 = (if m6 < (0 : Int32) then v8_2 else m6) ∧ A0 l Z n0 D h 0 0 223 #[.val (.long dg), .second, .val (.int sh), .val (.int pt), .val (.int ps), .val (.int ij_), .val (.long v6_1), .second, .val (.int v8_2), .val (.int v9_3), .val (.int m4), .val (.int m6), .val (.int v12_9), .val (.int v13_10), .val (.int m11), .val (.int v15_13), .val (.int m14), .val (.int m19), .val (.int m29), .val (.int m31), .unset, .unset, .unset, .unset, .unset, .unset, .unset] [(.int m33)] := by
    by_cases br34 : m6 < (0 : Int32)
    · skip
      replace r : A0 l Z n0 D h 0 0 221 #[.val (.long dg), .second, .val (.int sh), .val (.int pt), .val (.int ps), .val (.int ij_), .val (.long v6_1), .second, .val (.int v8_2), .val (.int v9_3), .val (.int m4), .val (.int m6), .val (.int v12_9), .val (.int v13_10), .val (.int m11), .val (.int v15_13), .val (.int m14), .val (.int m19), .val (.int m29), .val (.int m31), .unset, .unset, .unset, .unset, .unset, .unset, .unset] [] := Own.ifYes r at_213 ((if0 _ _).trans (tlt br34).1) (by decide) (by decide)
      replace r : A0 l Z n0 D h 0 0 223 #[.val (.long dg), .second, .val (.int sh), .val (.int pt), .val (.int ps), .val (.int ij_), .val (.long v6_1), .second, .val (.int v8_2), .val (.int v9_3), .val (.int m4), .val (.int m6), .val (.int v12_9), .val (.int v13_10), .val (.int m11), .val (.int v15_13), .val (.int m14), .val (.int m19), .val (.int m29), .val (.int m31), .unset, .unset, .unset, .unset, .unset, .unset, .unset] [(.int v8_2)] := Own.iload r at_221 rfl
      exact ⟨_, by rw [if_pos br34], r⟩
    · skip
      replace r : A0 l Z n0 D h 0 0 216 #[.val (.long dg), .second, .val (.int sh), .val (.int pt), .val (.int ps), .val (.int ij_), .val (.long v6_1), .second, .val (.int v8_2), .val (.int v9_3), .val (.int m4), .val (.int m6), .val (.int v12_9), .val (.int v13_10), .val (.int m11), .val (.int v15_13), .val (.int m14), .val (.int m19), .val (.int m29), .val (.int m31), .unset, .unset, .unset, .unset, .unset, .unset, .unset] [] := Own.ifNo r at_213 ((if0 _ _).trans (flt br34).1)
      replace r : A0 l Z n0 D h 0 0 218 #[.val (.long dg), .second, .val (.int sh), .val (.int pt), .val (.int ps), .val (.int ij_), .val (.long v6_1), .second, .val (.int v8_2), .val (.int v9_3), .val (.int m4), .val (.int m6), .val (.int v12_9), .val (.int v13_10), .val (.int m11), .val (.int v15_13), .val (.int m14), .val (.int m19), .val (.int m29), .val (.int m31), .unset, .unset, .unset, .unset, .unset, .unset, .unset] [(.int m6)] := Own.iload r at_216 rfl
      replace r : A0 l Z n0 D h 0 0 223 #[.val (.long dg), .second, .val (.int sh), .val (.int pt), .val (.int ps), .val (.int ij_), .val (.long v6_1), .second, .val (.int v8_2), .val (.int v9_3), .val (.int m4), .val (.int m6), .val (.int v12_9), .val (.int v13_10), .val (.int m11), .val (.int v15_13), .val (.int m14), .val (.int m19), .val (.int m29), .val (.int m31), .unset, .unset, .unset, .unset, .unset, .unset, .unset] [(.int m6)] := Own.goto r at_218 (by decide) (by decide)
      exact ⟨_, by rw [if_neg br34], r⟩
  replace r : A0 l Z n0 D h 0 0 225 #[.val (.long dg), .second, .val (.int sh), .val (.int pt), .val (.int ps), .val (.int ij_), .val (.long v6_1), .second, .val (.int v8_2), .val (.int v9_3), .val (.int m4), .val (.int m6), .val (.int v12_9), .val (.int v13_10), .val (.int m11), .val (.int v15_13), .val (.int m14), .val (.int m19), .val (.int m29), .val (.int m31), .val (.int m33), .unset, .unset, .unset, .unset, .unset, .unset] [] := Own.istore r at_223 rfl
  replace r : A0 l Z n0 D h 0 0 227 #[.val (.long dg), .second, .val (.int sh), .val (.int pt), .val (.int ps), .val (.int ij_), .val (.long v6_1), .second, .val (.int v8_2), .val (.int v9_3), .val (.int m4), .val (.int m6), .val (.int v12_9), .val (.int v13_10), .val (.int m11), .val (.int v15_13), .val (.int m14), .val (.int m19), .val (.int m29), .val (.int m31), .val (.int m33), .unset, .unset, .unset, .unset, .unset, .unset] [(.int m6)] := Own.iload r at_225 rfl
  obtain ⟨m35, e_m35, r⟩ : ∃ (m35 : Int32), m35 = (if m6 < (0 : Int32) then (0 : Int32) else ((v8_2 - m6) - (1 : Int32))) ∧ A0 l Z n0 D h 0 0 241 #[.val (.long dg), .second, .val (.int sh), .val (.int pt), .val (.int ps), .val (.int ij_), .val (.long v6_1), .second, .val (.int v8_2), .val (.int v9_3), .val (.int m4), .val (.int m6), .val (.int v12_9), .val (.int v13_10), .val (.int m11), .val (.int v15_13), .val (.int m14), .val (.int m19), .val (.int m29), .val (.int m31), .val (.int m33), .unset, .unset, .unset, .unset, .unset, .unset] [(.int m35)] := by
    by_cases br36 : m6 < (0 : Int32)
    · skip
      replace r : A0 l Z n0 D h 0 0 240 #[.val (.long dg), .second, .val (.int sh), .val (.int pt), .val (.int ps), .val (.int ij_), .val (.long v6_1), .second, .val (.int v8_2), .val (.int v9_3), .val (.int m4), .val (.int m6), .val (.int v12_9), .val (.int v13_10), .val (.int m11), .val (.int v15_13), .val (.int m14), .val (.int m19), .val (.int m29), .val (.int m31), .val (.int m33), .unset, .unset, .unset, .unset, .unset, .unset] [] := Own.ifYes r at_227 ((if0 _ _).trans (tlt br36).1) (by decide) (by decide)
      replace r : A0 l Z n0 D h 0 0 241 #[.val (.long dg), .second, .val (.int sh), .val (.int pt), .val (.int ps), .val (.int ij_), .val (.long v6_1), .second, .val (.int v8_2), .val (.int v9_3), .val (.int m4), .val (.int m6), .val (.int v12_9), .val (.int v13_10), .val (.int m11), .val (.int v15_13), .val (.int m14), .val (.int m19), .val (.int m29), .val (.int m31), .val (.int m33), .unset, .unset, .unset, .unset, .unset, .unset] [(.int (0 : Int32))] := Own.iconst r at_240 rfl
      exact ⟨_, by rw [if_pos br36], r⟩
    · skip
      replace r : A0 l Z n0 D h 0 0 230 #[.val (.long dg), .second, .val (.int sh), .val (.int pt), .val (.int ps), .val (.int ij_), .val (.long v6_1), .second, .val (.int v8_2), .val (.int v9_3), .val (.int m4), .val (.int m6), .val (.int v12_9), .val (.int v13_10), .val (.int m11), .val (.int v15_13), .val (.int m14), .val (.int m19), .val (.int m29), .val (.int m31), .val (.int m33), .unset, .unset, .unset, .unset, .unset, .unset] [] := Own.ifNo r at_227 ((if0 _ _).trans (flt br36).1)
      replace r : A0 l Z n0 D h 0 0 232 #[.val (.long dg), .second, .val (.int sh), .val (.int pt), .val (.int ps), .val (.int ij_), .val (.long v6_1), .second, .val (.int v8_2), .val (.int v9_3), .val (.int m4), .val (.int m6), .val (.int v12_9), .val (.int v13_10), .val (.int m11), .val (.int v15_13), .val (.int m14), .val (.int m19), .val (.int m29), .val (.int m31), .val (.int m33), .unset, .unset, .unset, .unset, .unset, .unset] [(.int v8_2)] := Own.iload r at_230 rfl
      replace r : A0 l Z n0 D h 0 0 234 #[.val (.long dg), .second, .val (.int sh), .val (.int pt), .val (.int ps), .val (.int ij_), .val (.long v6_1), .second, .val (.int v8_2), .val (.int v9_3), .val (.int m4), .val (.int m6), .val (.int v12_9), .val (.int v13_10), .val (.int m11), .val (.int v15_13), .val (.int m14), .val (.int m19), .val (.int m29), .val (.int m31), .val (.int m33), .unset, .unset, .unset, .unset, .unset, .unset] [(.int m6), (.int v8_2)] := Own.iload r at_232 rfl
      replace r : A0 l Z n0 D h 0 0 235 #[.val (.long dg), .second, .val (.int sh), .val (.int pt), .val (.int ps), .val (.int ij_), .val (.long v6_1), .second, .val (.int v8_2), .val (.int v9_3), .val (.int m4), .val (.int m6), .val (.int v12_9), .val (.int v13_10), .val (.int m11), .val (.int v15_13), .val (.int m14), .val (.int m19), .val (.int m29), .val (.int m31), .val (.int m33), .unset, .unset, .unset, .unset, .unset, .unset] [(.int (v8_2 - m6))] := Own.isub r at_234
      replace r : A0 l Z n0 D h 0 0 236 #[.val (.long dg), .second, .val (.int sh), .val (.int pt), .val (.int ps), .val (.int ij_), .val (.long v6_1), .second, .val (.int v8_2), .val (.int v9_3), .val (.int m4), .val (.int m6), .val (.int v12_9), .val (.int v13_10), .val (.int m11), .val (.int v15_13), .val (.int m14), .val (.int m19), .val (.int m29), .val (.int m31), .val (.int m33), .unset, .unset, .unset, .unset, .unset, .unset] [(.int (1 : Int32)), (.int (v8_2 - m6))] := Own.iconst r at_235 rfl
      replace r : A0 l Z n0 D h 0 0 237 #[.val (.long dg), .second, .val (.int sh), .val (.int pt), .val (.int ps), .val (.int ij_), .val (.long v6_1), .second, .val (.int v8_2), .val (.int v9_3), .val (.int m4), .val (.int m6), .val (.int v12_9), .val (.int v13_10), .val (.int m11), .val (.int v15_13), .val (.int m14), .val (.int m19), .val (.int m29), .val (.int m31), .val (.int m33), .unset, .unset, .unset, .unset, .unset, .unset] [(.int ((v8_2 - m6) - (1 : Int32)))] := Own.isub r at_236
      replace r : A0 l Z n0 D h 0 0 241 #[.val (.long dg), .second, .val (.int sh), .val (.int pt), .val (.int ps), .val (.int ij_), .val (.long v6_1), .second, .val (.int v8_2), .val (.int v9_3), .val (.int m4), .val (.int m6), .val (.int v12_9), .val (.int v13_10), .val (.int m11), .val (.int v15_13), .val (.int m14), .val (.int m19), .val (.int m29), .val (.int m31), .val (.int m33), .unset, .unset, .unset, .unset, .unset, .unset] [(.int ((v8_2 - m6) - (1 : Int32)))] := Own.goto r at_237 (by decide) (by decide)
      exact ⟨_, by rw [if_neg br36], r⟩
  replace r : A0 l Z n0 D h 0 0 243 #[.val (.long dg), .second, .val (.int sh), .val (.int pt), .val (.int ps), .val (.int ij_), .val (.long v6_1), .second, .val (.int v8_2), .val (.int v9_3), .val (.int m4), .val (.int m6), .val (.int v12_9), .val (.int v13_10), .val (.int m11), .val (.int v15_13), .val (.int m14), .val (.int m19), .val (.int m29), .val (.int m31), .val (.int m33), .val (.int m35), .unset, .unset, .unset, .unset, .unset] [] := Own.istore r at_241 rfl
  have hA := own_mkA e_v8_2 e_m4 e_m6 e_m31
  have hE := own_mkE hA e_v12_9 e_m33 e_m35
  have hj := own_mkJ e_m29
  obtain ⟨hs3, he3, hp3, hle3⟩ := own_mk3 hA e_v9_3 e_v12_9
  replace r : A0 l Z n0 D h 0 0 245 #[.val (.long dg), .second, .val (.int sh), .val (.int pt), .val (.int ps), .val (.int ij_), .val (.long v6_1), .second, .val (.int v8_2), .val (.int v9_3), .val (.int m4), .val (.int m6), .val (.int v12_9), .val (.int v13_10), .val (.int m11), .val (.int v15_13), .val (.int m14), .val (.int m19), .val (.int m29), .val (.int m31), .val (.int m33), .val (.int m35), .unset, .unset, .unset, .unset, .unset] [(.int (22 : Int32))] := Own.bipush r at_243 rfl
  obtain ⟨h37, ⟨E37, V_b37⟩, r⟩ := Own.newArr r at_245 (hw _ (List.mem_of_getElem? (i := 2) rfl)) (by decide) (cap := 22) (by decide) (by decide) (by decide) (by decide)
  obtain ⟨b37, g37⟩ : ∃ z, z = h.size := ⟨_, rfl⟩
  rw [← g37] at V_b37 r
  have ge_b37 : n0 ≤ b37 := Nat.le_trans Zs (Nat.le_of_eq g37.symm)
  replace Zs := Nat.le_trans Zs E37.1
  replace r : A0 l Z n0 D h37 1 22 247 #[.val (.long dg), .second, .val (.int sh), .val (.int pt), .val (.int ps), .val (.int ij_), .val (.long v6_1), .second, .val (.int v8_2), .val (.int v9_3), .val (.int m4), .val (.int m6), .val (.int v12_9), .val (.int v13_10), .val (.int m11), .val (.int v15_13), .val (.int m14), .val (.int m19), .val (.int m29), .val (.int m31), .val (.int m33), .val (.int m35), .unset, .unset, .unset, .unset, .unset] [(.ref b37)] := r
  replace V_b37 : Own.VA Z h37 b37 .byte [(.int (0 : Int32)), (.int (0 : Int32)), (.int (0 : Int32)), (.int (0 : Int32)), (.int (0 : Int32)), (.int (0 : Int32)), (.int (0 : Int32)), (.int (0 : Int32)), (.int (0 : Int32)), (.int (0 : Int32)), (.int (0 : Int32)), (.int (0 : Int32)), (.int (0 : Int32)), (.int (0 : Int32)), (.int (0 : Int32)), (.int (0 : Int32)), (.int (0 : Int32)), (.int (0 : Int32)), (.int (0 : Int32)), (.int (0 : Int32)), (.int (0 : Int32)), (.int (0 : Int32))] := V_b37
  replace r : A0 l Z n0 D h37 1 22 249 #[.val (.long dg), .second, .val (.int sh), .val (.int pt), .val (.int ps), .val (.int ij_), .val (.long v6_1), .second, .val (.int v8_2), .val (.int v9_3), .val (.int m4), .val (.int m6), .val (.int v12_9), .val (.int v13_10), .val (.int m11), .val (.int v15_13), .val (.int m14), .val (.int m19), .val (.int m29), .val (.int m31), .val (.int m33), .val (.int m35), .val (.ref b37), .unset, .unset, .unset, .unset] [] := Own.astore r at_247 rfl rfl
  replace r : A0 l Z n0 D h37 1 22 251 #[.val (.long dg), .second, .val (.int sh), .val (.int pt), .val (.int ps), .val (.int ij_), .val (.long v6_1), .second, .val (.int v8_2), .val (.int v9_3), .val (.int m4), .val (.int m6), .val (.int v12_9), .val (.int v13_10), .val (.int m11), .val (.int v15_13), .val (.int m14), .val (.int m19), .val (.int m29), .val (.int m31), .val (.int m33), .val (.int m35), .val (.ref b37), .unset, .unset, .unset, .unset] [(.ref b37)] := Own.aload r at_249 rfl rfl
  replace r : A0 l Z n0 D h37 1 22 252 #[.val (.long dg), .second, .val (.int sh), .val (.int pt), .val (.int ps), .val (.int ij_), .val (.long v6_1), .second, .val (.int v8_2), .val (.int v9_3), .val (.int m4), .val (.int m6), .val (.int v12_9), .val (.int v13_10), .val (.int m11), .val (.int v15_13), .val (.int m14), .val (.int m19), .val (.int m29), .val (.int m31), .val (.int m33), .val (.int m35), .val (.ref b37), .unset, .unset, .unset, .unset] [(.int (0 : Int32)), (.ref b37)] := Own.iconst r at_251 rfl
  replace r : A0 l Z n0 D h37 1 22 253 #[.val (.long dg), .second, .val (.int sh), .val (.int pt), .val (.int ps), .val (.int ij_), .val (.long v6_1), .second, .val (.int v8_2), .val (.int v9_3), .val (.int m4), .val (.int m6), .val (.int v12_9), .val (.int v13_10), .val (.int m11), .val (.int v15_13), .val (.int m14), .val (.int m19), .val (.int m29), .val (.int m31), .val (.int m33), .val (.int m35), .val (.ref b37), .unset, .unset, .unset, .unset] [(.int (0 : Int32)), (.int (0 : Int32)), (.ref b37)] := Own.iconst r at_252 rfl
  replace r : A0 l Z n0 D h37 1 22 255 #[.val (.long dg), .second, .val (.int sh), .val (.int pt), .val (.int ps), .val (.int ij_), .val (.long v6_1), .second, .val (.int v8_2), .val (.int v9_3), .val (.int m4), .val (.int m6), .val (.int v12_9), .val (.int v13_10), .val (.int m11), .val (.int v15_13), .val (.int m14), .val (.int m19), .val (.int m29), .val (.int m31), .val (.int m33), .val (.int m35), .val (.ref b37), .unset, .unset, .unset, .unset] [(.int v9_3), (.int (0 : Int32)), (.int (0 : Int32)), (.ref b37)] := Own.iload r at_253 rfl
  replace r : A0 l Z n0 D h37 1 22 256 #[.val (.long dg), .second, .val (.int sh), .val (.int pt), .val (.int ps), .val (.int ij_), .val (.long v6_1), .second, .val (.int v8_2), .val (.int v9_3), .val (.int m4), .val (.int m6), .val (.int v12_9), .val (.int v13_10), .val (.int m11), .val (.int v15_13), .val (.int m14), .val (.int m19), .val (.int m29), .val (.int m31), .val (.int m33), .val (.int m35), .val (.ref b37), .unset, .unset, .unset, .unset] [(.int ((0 : Int32) - v9_3)), (.int (0 : Int32)), (.ref b37)] := Own.isub r at_255
  replace r : A0 l Z n0 D h37 1 22 258 #[.val (.long dg), .second, .val (.int sh), .val (.int pt), .val (.int ps), .val (.int ij_), .val (.long v6_1), .second, .val (.int v8_2), .val (.int v9_3), .val (.int m4), .val (.int m6), .val (.int v12_9), .val (.int v13_10), .val (.int m11), .val (.int v15_13), .val (.int m14), .val (.int m19), .val (.int m29), .val (.int m31), .val (.int m33), .val (.int m35), .val (.ref b37), .unset, .unset, .unset, .unset] [(.int v8_2), (.int ((0 : Int32) - v9_3)), (.int (0 : Int32)), (.ref b37)] := Own.iload r at_256 rfl
  replace r : A0 l Z n0 D h37 1 22 260 #[.val (.long dg), .second, .val (.int sh), .val (.int pt), .val (.int ps), .val (.int ij_), .val (.long v6_1), .second, .val (.int v8_2), .val (.int v9_3), .val (.int m4), .val (.int m6), .val (.int v12_9), .val (.int v13_10), .val (.int m11), .val (.int v15_13), .val (.int m14), .val (.int m19), .val (.int m29), .val (.int m31), .val (.int m33), .val (.int m35), .val (.ref b37), .unset, .unset, .unset, .unset] [(.int m6), (.int v8_2), (.int ((0 : Int32) - v9_3)), (.int (0 : Int32)), (.ref b37)] := Own.iload r at_258 rfl
  replace r : A0 l Z n0 D h37 1 22 262 #[.val (.long dg), .second, .val (.int sh), .val (.int pt), .val (.int ps), .val (.int ij_), .val (.long v6_1), .second, .val (.int v8_2), .val (.int v9_3), .val (.int m4), .val (.int m6), .val (.int v12_9), .val (.int v13_10), .val (.int m11), .val (.int v15_13), .val (.int m14), .val (.int m19), .val (.int m29), .val (.int m31), .val (.int m33), .val (.int m35), .val (.ref b37), .unset, .unset, .unset, .unset] [(.int m31), (.int m6), (.int v8_2), (.int ((0 : Int32) - v9_3)), (.int (0 : Int32)), (.ref b37)] := Own.iload r at_260 rfl
  replace r : A0 l Z n0 D h37 1 22 264 #[.val (.long dg), .second, .val (.int sh), .val (.int pt), .val (.int ps), .val (.int ij_), .val (.long v6_1), .second, .val (.int v8_2), .val (.int v9_3), .val (.int m4), .val (.int m6), .val (.int v12_9), .val (.int v13_10), .val (.int m11), .val (.int v15_13), .val (.int m14), .val (.int m19), .val (.int m29), .val (.int m31), .val (.int m33), .val (.int m35), .val (.ref b37), .unset, .unset, .unset, .unset] [(.long v6_1), (.int m31), (.int m6), (.int v8_2), (.int ((0 : Int32) - v9_3)), (.int (0 : Int32)), (.ref b37)] := Own.lload r at_262 rfl
  replace r : A0 l Z n0 D h37 1 22 266 #[.val (.long dg), .second, .val (.int sh), .val (.int pt), .val (.int ps), .val (.int ij_), .val (.long v6_1), .second, .val (.int v8_2), .val (.int v9_3), .val (.int m4), .val (.int m6), .val (.int v12_9), .val (.int v13_10), .val (.int m11), .val (.int v15_13), .val (.int m14), .val (.int m19), .val (.int m29), .val (.int m31), .val (.int m33), .val (.int m35), .val (.ref b37), .unset, .unset, .unset, .unset] [(.int m19), (.long v6_1), (.int m31), (.int m6), (.int v8_2), (.int ((0 : Int32) - v9_3)), (.int (0 : Int32)), (.ref b37)] := Own.iload r at_264 rfl
  replace r : A0 l Z n0 D h37 1 22 268 #[.val (.long dg), .second, .val (.int sh), .val (.int pt), .val (.int ps), .val (.int ij_), .val (.long v6_1), .second, .val (.int v8_2), .val (.int v9_3), .val (.int m4), .val (.int m6), .val (.int v12_9), .val (.int v13_10), .val (.int m11), .val (.int v15_13), .val (.int m14), .val (.int m19), .val (.int m29), .val (.int m31), .val (.int m33), .val (.int m35), .val (.ref b37), .unset, .unset, .unset, .unset] [(.int m11), (.int m19), (.long v6_1), (.int m31), (.int m6), (.int v8_2), (.int ((0 : Int32) - v9_3)), (.int (0 : Int32)), (.ref b37)] := Own.iload r at_266 rfl
  replace r : A0 l Z n0 D h37 1 22 270 #[.val (.long dg), .second, .val (.int sh), .val (.int pt), .val (.int ps), .val (.int ij_), .val (.long v6_1), .second, .val (.int v8_2), .val (.int v9_3), .val (.int m4), .val (.int m6), .val (.int v12_9), .val (.int v13_10), .val (.int m11), .val (.int v15_13), .val (.int m14), .val (.int m19), .val (.int m29), .val (.int m31), .val (.int m33), .val (.int m35), .val (.ref b37), .unset, .unset, .unset, .unset] [(.int m29), (.int m11), (.int m19), (.long v6_1), (.int m31), (.int m6), (.int v8_2), (.int ((0 : Int32) - v9_3)), (.int (0 : Int32)), (.ref b37)] := Own.iload r at_268 rfl
  obtain ⟨rv38, h39, hQ40, r⟩ := Own.callS [(.int ((0 : Int32) - v9_3)), (.int v8_2), (.int m6), (.int m31), (.long v6_1), (.int m19), (.int m11), (.int m29)] r at_270 (c1 l Z a0 hw n0 h37 Zs ((0 : Int32) - v9_3) v8_2 m6 m31 v6_1 m19 m11 m29 hA hj) (hw _ (List.mem_of_getElem? (i := 3) rfl)) (hw _ (List.mem_of_getElem? (i := 4) rfl)) (hw _ (List.mem_of_getElem? (i := 5) rfl)) (hw _ (List.mem_of_getElem? (i := 6) rfl)) (lenOf pd_0_0 rfl) rfl rfl (W := 2) (Nat.le_of_eq rfl) rfl (by decide) (by decide) (by decide) (by decide) (by decide)
  obtain ⟨K41, y42, rfl, e_y42⟩ := hQ40
  replace V_b37 := V_b37.keep K41 (by simp)
  replace Zs := Nat.le_trans Zs K41.1
  replace r : A0 l Z n0 D h39 2 41 273 #[.val (.long dg), .second, .val (.int sh), .val (.int pt), .val (.int ps), .val (.int ij_), .val (.long v6_1), .second, .val (.int v8_2), .val (.int v9_3), .val (.int m4), .val (.int m6), .val (.int v12_9), .val (.int v13_10), .val (.int m11), .val (.int v15_13), .val (.int m14), .val (.int m19), .val (.int m29), .val (.int m31), .val (.int m33), .val (.int m35), .val (.ref b37), .unset, .unset, .unset, .unset] [(.int y42), (.int (0 : Int32)), (.ref b37)] := r
  obtain ⟨h44, ⟨W43, V_b37⟩, r⟩ := Own.bastore r at_273 V_b37 (by decide) (Nat.le_of_ble_eq_true rfl) ge_b37
  replace r : A0 l Z n0 D h44 2 41 274 #[.val (.long dg), .second, .val (.int sh), .val (.int pt), .val (.int ps), .val (.int ij_), .val (.long v6_1), .second, .val (.int v8_2), .val (.int v9_3), .val (.int m4), .val (.int m6), .val (.int v12_9), .val (.int v13_10), .val (.int m11), .val (.int v15_13), .val (.int m14), .val (.int m19), .val (.int m29), .val (.int m31), .val (.int m33), .val (.int m35), .val (.ref b37), .unset, .unset, .unset, .unset] [] := r
  replace Zs := Nat.le_trans Zs (Nat.le_of_eq W43.size.symm)
  replace V_b37 : Own.VA Z h44 b37 .byte [(.int (nar .byte y42)), (.int (0 : Int32)), (.int (0 : Int32)), (.int (0 : Int32)), (.int (0 : Int32)), (.int (0 : Int32)), (.int (0 : Int32)), (.int (0 : Int32)), (.int (0 : Int32)), (.int (0 : Int32)), (.int (0 : Int32)), (.int (0 : Int32)), (.int (0 : Int32)), (.int (0 : Int32)), (.int (0 : Int32)), (.int (0 : Int32)), (.int (0 : Int32)), (.int (0 : Int32)), (.int (0 : Int32)), (.int (0 : Int32)), (.int (0 : Int32)), (.int (0 : Int32))] := V_b37
  replace r : A0 l Z n0 D h44 2 41 276 #[.val (.long dg), .second, .val (.int sh), .val (.int pt), .val (.int ps), .val (.int ij_), .val (.long v6_1), .second, .val (.int v8_2), .val (.int v9_3), .val (.int m4), .val (.int m6), .val (.int v12_9), .val (.int v13_10), .val (.int m11), .val (.int v15_13), .val (.int m14), .val (.int m19), .val (.int m29), .val (.int m31), .val (.int m33), .val (.int m35), .val (.ref b37), .unset, .unset, .unset, .unset] [(.ref b37)] := Own.aload r at_274 rfl rfl
  replace r : A0 l Z n0 D h44 2 41 277 #[.val (.long dg), .second, .val (.int sh), .val (.int pt), .val (.int ps), .val (.int ij_), .val (.long v6_1), .second, .val (.int v8_2), .val (.int v9_3), .val (.int m4), .val (.int m6), .val (.int v12_9), .val (.int v13_10), .val (.int m11), .val (.int v15_13), .val (.int m14), .val (.int m19), .val (.int m29), .val (.int m31), .val (.int m33), .val (.int m35), .val (.ref b37), .unset, .unset, .unset, .unset] [(.int (1 : Int32)), (.ref b37)] := Own.iconst r at_276 rfl
  replace r : A0 l Z n0 D h44 2 41 278 #[.val (.long dg), .second, .val (.int sh), .val (.int pt), .val (.int ps), .val (.int ij_), .val (.long v6_1), .second, .val (.int v8_2), .val (.int v9_3), .val (.int m4), .val (.int m6), .val (.int v12_9), .val (.int v13_10), .val (.int m11), .val (.int v15_13), .val (.int m14), .val (.int m19), .val (.int m29), .val (.int m31), .val (.int m33), .val (.int m35), .val (.ref b37), .unset, .unset, .unset, .unset] [(.int (1 : Int32)), (.int (1 : Int32)), (.ref b37)] := Own.iconst r at_277 rfl
  replace r : A0 l Z n0 D h44 2 41 280 #[.val (.long dg), .second, .val (.int sh), .val (.int pt), .val (.int ps), .val (.int ij_), .val (.long v6_1), .second, .val (.int v8_2), .val (.int v9_3), .val (.int m4), .val (.int m6), .val (.int v12_9), .val (.int v13_10), .val (.int m11), .val (.int v15_13), .val (.int m14), .val (.int m19), .val (.int m29), .val (.int m31), .val (.int m33), .val (.int m35), .val (.ref b37), .unset, .unset, .unset, .unset] [(.int v9_3), (.int (1 : Int32)), (.int (1 : Int32)), (.ref b37)] := Own.iload r at_278 rfl
  replace r : A0 l Z n0 D h44 2 41 281 #[.val (.long dg), .second, .val (.int sh), .val (.int pt), .val (.int ps), .val (.int ij_), .val (.long v6_1), .second, .val (.int v8_2), .val (.int v9_3), .val (.int m4), .val (.int m6), .val (.int v12_9), .val (.int v13_10), .val (.int m11), .val (.int v15_13), .val (.int m14), .val (.int m19), .val (.int m29), .val (.int m31), .val (.int m33), .val (.int m35), .val (.ref b37), .unset, .unset, .unset, .unset] [(.int ((1 : Int32) - v9_3)), (.int (1 : Int32)), (.ref b37)] := Own.isub r at_280
  replace r : A0 l Z n0 D h44 2 41 283 #[.val (.long dg), .second, .val (.int sh), .val (.int pt), .val (.int ps), .val (.int ij_), .val (.long v6_1), .second, .val (.int v8_2), .val (.int v9_3), .val (.int m4), .val (.int m6), .val (.int v12_9), .val (.int v13_10), .val (.int m11), .val (.int v15_13), .val (.int m14), .val (.int m19), .val (.int m29), .val (.int m31), .val (.int m33), .val (.int m35), .val (.ref b37), .unset, .unset, .unset, .unset] [(.int v8_2), (.int ((1 : Int32) - v9_3)), (.int (1 : Int32)), (.ref b37)] := Own.iload r at_281 rfl
  replace r : A0 l Z n0 D h44 2 41 285 #[.val (.long dg), .second, .val (.int sh), .val (.int pt), .val (.int ps), .val (.int ij_), .val (.long v6_1), .second, .val (.int v8_2), .val (.int v9_3), .val (.int m4), .val (.int m6), .val (.int v12_9), .val (.int v13_10), .val (.int m11), .val (.int v15_13), .val (.int m14), .val (.int m19), .val (.int m29), .val (.int m31), .val (.int m33), .val (.int m35), .val (.ref b37), .unset, .unset, .unset, .unset] [(.int m6), (.int v8_2), (.int ((1 : Int32) - v9_3)), (.int (1 : Int32)), (.ref b37)] := Own.iload r at_283 rfl
  replace r : A0 l Z n0 D h44 2 41 287 #[.val (.long dg), .second, .val (.int sh), .val (.int pt), .val (.int ps), .val (.int ij_), .val (.long v6_1), .second, .val (.int v8_2), .val (.int v9_3), .val (.int m4), .val (.int m6), .val (.int v12_9), .val (.int v13_10), .val (.int m11), .val (.int v15_13), .val (.int m14), .val (.int m19), .val (.int m29), .val (.int m31), .val (.int m33), .val (.int m35), .val (.ref b37), .unset, .unset, .unset, .unset] [(.int m31), (.int m6), (.int v8_2), (.int ((1 : Int32) - v9_3)), (.int (1 : Int32)), (.ref b37)] := Own.iload r at_285 rfl
  replace r : A0 l Z n0 D h44 2 41 289 #[.val (.long dg), .second, .val (.int sh), .val (.int pt), .val (.int ps), .val (.int ij_), .val (.long v6_1), .second, .val (.int v8_2), .val (.int v9_3), .val (.int m4), .val (.int m6), .val (.int v12_9), .val (.int v13_10), .val (.int m11), .val (.int v15_13), .val (.int m14), .val (.int m19), .val (.int m29), .val (.int m31), .val (.int m33), .val (.int m35), .val (.ref b37), .unset, .unset, .unset, .unset] [(.long v6_1), (.int m31), (.int m6), (.int v8_2), (.int ((1 : Int32) - v9_3)), (.int (1 : Int32)), (.ref b37)] := Own.lload r at_287 rfl
  replace r : A0 l Z n0 D h44 2 41 291 #[.val (.long dg), .second, .val (.int sh), .val (.int pt), .val (.int ps), .val (.int ij_), .val (.long v6_1), .second, .val (.int v8_2), .val (.int v9_3), .val (.int m4), .val (.int m6), .val (.int v12_9), .val (.int v13_10), .val (.int m11), .val (.int v15_13), .val (.int m14), .val (.int m19), .val (.int m29), .val (.int m31), .val (.int m33), .val (.int m35), .val (.ref b37), .unset, .unset, .unset, .unset] [(.int m19), (.long v6_1), (.int m31), (.int m6), (.int v8_2), (.int ((1 : Int32) - v9_3)), (.int (1 : Int32)), (.ref b37)] := Own.iload r at_289 rfl
  replace r : A0 l Z n0 D h44 2 41 293 #[.val (.long dg), .second, .val (.int sh), .val (.int pt), .val (.int ps), .val (.int ij_), .val (.long v6_1), .second, .val (.int v8_2), .val (.int v9_3), .val (.int m4), .val (.int m6), .val (.int v12_9), .val (.int v13_10), .val (.int m11), .val (.int v15_13), .val (.int m14), .val (.int m19), .val (.int m29), .val (.int m31), .val (.int m33), .val (.int m35), .val (.ref b37), .unset, .unset, .unset, .unset] [(.int m11), (.int m19), (.long v6_1), (.int m31), (.int m6), (.int v8_2), (.int ((1 : Int32) - v9_3)), (.int (1 : Int32)), (.ref b37)] := Own.iload r at_291 rfl
  replace r : A0 l Z n0 D h44 2 41 295 #[.val (.long dg), .second, .val (.int sh), .val (.int pt), .val (.int ps), .val (.int ij_), .val (.long v6_1), .second, .val (.int v8_2), .val (.int v9_3), .val (.int m4), .val (.int m6), .val (.int v12_9), .val (.int v13_10), .val (.int m11), .val (.int v15_13), .val (.int m14), .val (.int m19), .val (.int m29), .val (.int m31), .val (.int m33), .val (.int m35), .val (.ref b37), .unset, .unset, .unset, .unset] [(.int m29), (.int m11), (.int m19), (.long v6_1), (.int m31), (.int m6), (.int v8_2), (.int ((1 : Int32) - v9_3)), (.int (1 : Int32)), (.ref b37)] := Own.iload r at_293 rfl
  obtain ⟨rv45, h46, hQ47, r⟩ := Own.callS [(.int ((1 : Int32) - v9_3)), (.int v8_2), (.int m6), (.int m31), (.long v6_1), (.int m19), (.int m11), (.int m29)] r at_295 (c1 l Z a0 hw n0 h44 Zs ((1 : Int32) - v9_3) v8_2 m6 m31 v6_1 m19 m11 m29 hA hj) (hw _ (List.mem_of_getElem? (i := 3) rfl)) (hw _ (List.mem_of_getElem? (i := 4) rfl)) (hw _ (List.mem_of_getElem? (i := 5) rfl)) (hw _ (List.mem_of_getElem? (i := 6) rfl)) (lenOf pd_0_0 rfl) rfl rfl (W := 2) (Nat.le_of_eq rfl) rfl (by decide) (by decide) (by decide) (by decide) (by decide)
  obtain ⟨K48, y49, rfl, e_y49⟩ := hQ47
  replace V_b37 := V_b37.keep K48 (by simp)
  replace Zs := Nat.le_trans Zs K48.1
  replace r : A0 l Z n0 D h46 3 60 298 #[.val (.long dg), .second, .val (.int sh), .val (.int pt), .val (.int ps), .val (.int ij_), .val (.long v6_1), .second, .val (.int v8_2), .val (.int v9_3), .val (.int m4), .val (.int m6), .val (.int v12_9), .val (.int v13_10), .val (.int m11), .val (.int v15_13), .val (.int m14), .val (.int m19), .val (.int m29), .val (.int m31), .val (.int m33), .val (.int m35), .val (.ref b37), .unset, .unset, .unset, .unset] [(.int y49), (.int (1 : Int32)), (.ref b37)] := r
  obtain ⟨h51, ⟨W50, V_b37⟩, r⟩ := Own.bastore r at_298 V_b37 (by decide) (Nat.le_of_ble_eq_true rfl) ge_b37
  replace r : A0 l Z n0 D h51 3 60 299 #[.val (.long dg), .second, .val (.int sh), .val (.int pt), .val (.int ps), .val (.int ij_), .val (.long v6_1), .second, .val (.int v8_2), .val (.int v9_3), .val (.int m4), .val (.int m6), .val (.int v12_9), .val (.int v13_10), .val (.int m11), .val (.int v15_13), .val (.int m14), .val (.int m19), .val (.int m29), .val (.int m31), .val (.int m33), .val (.int m35), .val (.ref b37), .unset, .unset, .unset, .unset] [] := r
  replace Zs := Nat.le_trans Zs (Nat.le_of_eq W50.size.symm)
  replace V_b37 : Own.VA Z h51 b37 .byte [(.int (nar .byte y42)), (.int (nar .byte y49)), (.int (0 : Int32)), (.int (0 : Int32)), (.int (0 : Int32)), (.int (0 : Int32)), (.int (0 : Int32)), (.int (0 : Int32)), (.int (0 : Int32)), (.int (0 : Int32)), (.int (0 : Int32)), (.int (0 : Int32)), (.int (0 : Int32)), (.int (0 : Int32)), (.int (0 : Int32)), (.int (0 : Int32)), (.int (0 : Int32)), (.int (0 : Int32)), (.int (0 : Int32)), (.int (0 : Int32)), (.int (0 : Int32)), (.int (0 : Int32))] := V_b37
  replace r : A0 l Z n0 D h51 3 60 301 #[.val (.long dg), .second, .val (.int sh), .val (.int pt), .val (.int ps), .val (.int ij_), .val (.long v6_1), .second, .val (.int v8_2), .val (.int v9_3), .val (.int m4), .val (.int m6), .val (.int v12_9), .val (.int v13_10), .val (.int m11), .val (.int v15_13), .val (.int m14), .val (.int m19), .val (.int m29), .val (.int m31), .val (.int m33), .val (.int m35), .val (.ref b37), .unset, .unset, .unset, .unset] [(.ref b37)] := Own.aload r at_299 rfl rfl
  replace r : A0 l Z n0 D h51 3 60 302 #[.val (.long dg), .second, .val (.int sh), .val (.int pt), .val (.int ps), .val (.int ij_), .val (.long v6_1), .second, .val (.int v8_2), .val (.int v9_3), .val (.int m4), .val (.int m6), .val (.int v12_9), .val (.int v13_10), .val (.int m11), .val (.int v15_13), .val (.int m14), .val (.int m19), .val (.int m29), .val (.int m31), .val (.int m33), .val (.int m35), .val (.ref b37), .unset, .unset, .unset, .unset] [(.int (2 : Int32)), (.ref b37)] := Own.iconst r at_301 rfl
  replace r : A0 l Z n0 D h51 3 60 303 #[.val (.long dg), .second, .val (.int sh), .val (.int pt), .val (.int ps), .val (.int ij_), .val (.long v6_1), .second, .val (.int v8_2), .val (.int v9_3), .val (.int m4), .val (.int m6), .val (.int v12_9), .val (.int v13_10), .val (.int m11), .val (.int v15_13), .val (.int m14), .val (.int m19), .val (.int m29), .val (.int m31), .val (.int m33), .val (.int m35), .val (.ref b37), .unset, .unset, .unset, .unset] [(.int (2 : Int32)), (.int (2 : Int32)), (.ref b37)] := Own.iconst r at_302 rfl
  replace r : A0 l Z n0 D h51 3 60 305 #[.val (.long dg), .second, .val (.int sh), .val (.int pt), .val (.int ps), .val (.int ij_), .val (.long v6_1), .second, .val (.int v8_2), .val (.int v9_3), .val (.int m4), .val (.int m6), .val (.int v12_9), .val (.int v13_10), .val (.int m11), .val (.int v15_13), .val (.int m14), .val (.int m19), .val (.int m29), .val (.int m31), .val (.int m33), .val (.int m35), .val (.ref b37), .unset, .unset, .unset, .unset] [(.int v9_3), (.int (2 : Int32)), (.int (2 : Int32)), (.ref b37)] := Own.iload r at_303 rfl
  replace r : A0 l Z n0 D h51 3 60 306 #[.val (.long dg), .second, .val (.int sh), .val (.int pt), .val (.int ps), .val (.int ij_), .val (.long v6_1), .second, .val (.int v8_2), .val (.int v9_3), .val (.int m4), .val (.int m6), .val (.int v12_9), .val (.int v13_10), .val (.int m11), .val (.int v15_13), .val (.int m14), .val (.int m19), .val (.int m29), .val (.int m31), .val (.int m33), .val (.int m35), .val (.ref b37), .unset, .unset, .unset, .unset] [(.int ((2 : Int32) - v9_3)), (.int (2 : Int32)), (.ref b37)] := Own.isub r at_305
  replace r : A0 l Z n0 D h51 3 60 308 #[.val (.long dg), .second, .val (.int sh), .val (.int pt), .val (.int ps), .val (.int ij_), .val (.long v6_1), .second, .val (.int v8_2), .val (.int v9_3), .val (.int m4), .val (.int m6), .val (.int v12_9), .val (.int v13_10), .val (.int m11), .val (.int v15_13), .val (.int m14), .val (.int m19), .val (.int m29), .val (.int m31), .val (.int m33), .val (.int m35), .val (.ref b37), .unset, .unset, .unset, .unset] [(.int v8_2), (.int ((2 : Int32) - v9_3)), (.int (2 : Int32)), (.ref b37)] := Own.iload r at_306 rfl
  replace r : A0 l Z n0 D h51 3 60 310 #[.val (.long dg), .second, .val (.int sh), .val (.int pt), .val (.int ps), .val (.int ij_), .val (.long v6_1), .second, .val (.int v8_2), .val (.int v9_3), .val (.int m4), .val (.int m6), .val (.int v12_9), .val (.int v13_10), .val (.int m11), .val (.int v15_13), .val (.int m14), .val (.int m19), .val (.int m29), .val (.int m31), .val (.int m33), .val (.int m35), .val (.ref b37), .unset, .unset, .unset, .unset] [(.int m6), (.int v8_2), (.int ((2 : Int32) - v9_3)), (.int (2 : Int32)), (.ref b37)] := Own.iload r at_308 rfl
  replace r : A0 l Z n0 D h51 3 60 312 #[.val (.long dg), .second, .val (.int sh), .val (.int pt), .val (.int ps), .val (.int ij_), .val (.long v6_1), .second, .val (.int v8_2), .val (.int v9_3), .val (.int m4), .val (.int m6), .val (.int v12_9), .val (.int v13_10), .val (.int m11), .val (.int v15_13), .val (.int m14), .val (.int m19), .val (.int m29), .val (.int m31), .val (.int m33), .val (.int m35), .val (.ref b37), .unset, .unset, .unset, .unset] [(.int m31), (.int m6), (.int v8_2), (.int ((2 : Int32) - v9_3)), (.int (2 : Int32)), (.ref b37)] := Own.iload r at_310 rfl
  replace r : A0 l Z n0 D h51 3 60 314 #[.val (.long dg), .second, .val (.int sh), .val (.int pt), .val (.int ps), .val (.int ij_), .val (.long v6_1), .second, .val (.int v8_2), .val (.int v9_3), .val (.int m4), .val (.int m6), .val (.int v12_9), .val (.int v13_10), .val (.int m11), .val (.int v15_13), .val (.int m14), .val (.int m19), .val (.int m29), .val (.int m31), .val (.int m33), .val (.int m35), .val (.ref b37), .unset, .unset, .unset, .unset] [(.long v6_1), (.int m31), (.int m6), (.int v8_2), (.int ((2 : Int32) - v9_3)), (.int (2 : Int32)), (.ref b37)] := Own.lload r at_312 rfl
  replace r : A0 l Z n0 D h51 3 60 316 #[.val (.long dg), .second, .val (.int sh), .val (.int pt), .val (.int ps), .val (.int ij_), .val (.long v6_1), .second, .val (.int v8_2), .val (.int v9_3), .val (.int m4), .val (.int m6), .val (.int v12_9), .val (.int v13_10), .val (.int m11), .val (.int v15_13), .val (.int m14), .val (.int m19), .val (.int m29), .val (.int m31), .val (.int m33), .val (.int m35), .val (.ref b37), .unset, .unset, .unset, .unset] [(.int m19), (.long v6_1), (.int m31), (.int m6), (.int v8_2), (.int ((2 : Int32) - v9_3)), (.int (2 : Int32)), (.ref b37)] := Own.iload r at_314 rfl
  replace r : A0 l Z n0 D h51 3 60 318 #[.val (.long dg), .second, .val (.int sh), .val (.int pt), .val (.int ps), .val (.int ij_), .val (.long v6_1), .second, .val (.int v8_2), .val (.int v9_3), .val (.int m4), .val (.int m6), .val (.int v12_9), .val (.int v13_10), .val (.int m11), .val (.int v15_13), .val (.int m14), .val (.int m19), .val (.int m29), .val (.int m31), .val (.int m33), .val (.int m35), .val (.ref b37), .unset, .unset, .unset, .unset] [(.int m11), (.int m19), (.long v6_1), (.int m31), (.int m6), (.int v8_2), (.int ((2 : Int32) - v9_3)), (.int (2 : Int32)), (.ref b37)] := Own.iload r at_316 rfl
  replace r : A0 l Z n0 D h51 3 60 320 #[.val (.long dg), .second, .val (.int sh), .val (.int pt), .val (.int ps), .val (.int ij_), .val (.long v6_1), .second, .val (.int v8_2), .val (.int v9_3), .val (.int m4), .val (.int m6), .val (.int v12_9), .val (.int v13_10), .val (.int m11), .val (.int v15_13), .val (.int m14), .val (.int m19), .val (.int m29), .val (.int m31), .val (.int m33), .val (.int m35), .val (.ref b37), .unset, .unset, .unset, .unset] [(.int m29), (.int m11), (.int m19), (.long v6_1), (.int m31), (.int m6), (.int v8_2), (.int ((2 : Int32) - v9_3)), (.int (2 : Int32)), (.ref b37)] := Own.iload r at_318 rfl
  obtain ⟨rv52, h53, hQ54, r⟩ := Own.callS [(.int ((2 : Int32) - v9_3)), (.int v8_2), (.int m6), (.int m31), (.long v6_1), (.int m19), (.int m11), (.int m29)] r at_320 (c1 l Z a0 hw n0 h51 Zs ((2 : Int32) - v9_3) v8_2 m6 m31 v6_1 m19 m11 m29 hA hj) (hw _ (List.mem_of_getElem? (i := 3) rfl)) (hw _ (List.mem_of_getElem? (i := 4) rfl)) (hw _ (List.mem_of_getElem? (i := 5) rfl)) (hw _ (List.mem_of_getElem? (i := 6) rfl)) (lenOf pd_0_0 rfl) rfl rfl (W := 2) (Nat.le_of_eq rfl) rfl (by decide) (by decide) (by decide) (by decide) (by decide)
  obtain ⟨K55, y56, rfl, e_y56⟩ := hQ54
  replace V_b37 := V_b37.keep K55 (by simp)
  replace Zs := Nat.le_trans Zs K55.1
  replace r : A0 l Z n0 D h53 4 79 323 #[.val (.long dg), .second, .val (.int sh), .val (.int pt), .val (.int ps), .val (.int ij_), .val (.long v6_1), .second, .val (.int v8_2), .val (.int v9_3), .val (.int m4), .val (.int m6), .val (.int v12_9), .val (.int v13_10), .val (.int m11), .val (.int v15_13), .val (.int m14), .val (.int m19), .val (.int m29), .val (.int m31), .val (.int m33), .val (.int m35), .val (.ref b37), .unset, .unset, .unset, .unset] [(.int y56), (.int (2 : Int32)), (.ref b37)] := r
  obtain ⟨h58, ⟨W57, V_b37⟩, r⟩ := Own.bastore r at_323 V_b37 (by decide) (Nat.le_of_ble_eq_true rfl) ge_b37
  replace r : A0 l Z n0 D h58 4 79 324 #[.val (.long dg), .second, .val (.int sh), .val (.int pt), .val (.int ps), .val (.int ij_), .val (.long v6_1), .second, .val (.int v8_2), .val (.int v9_3), .val (.int m4), .val (.int m6), .val (.int v12_9), .val (.int v13_10), .val (.int m11), .val (.int v15_13), .val (.int m14), .val (.int m19), .val (.int m29), .val (.int m31), .val (.int m33), .val (.int m35), .val (.ref b37), .unset, .unset, .unset, .unset] [] := r
  replace Zs := Nat.le_trans Zs (Nat.le_of_eq W57.size.symm)
  replace V_b37 : Own.VA Z h58 b37 .byte [(.int (nar .byte y42)), (.int (nar .byte y49)), (.int (nar .byte y56)), (.int (0 : Int32)), (.int (0 : Int32)), (.int (0 : Int32)), (.int (0 : Int32)), (.int (0 : Int32)), (.int (0 : Int32)), (.int (0 : Int32)), (.int (0 : Int32)), (.int (0 : Int32)), (.int (0 : Int32)), (.int (0 : Int32)), (.int (0 : Int32)), (.int (0 : Int32)), (.int (0 : Int32)), (.int (0 : Int32)), (.int (0 : Int32)), (.int (0 : Int32)), (.int (0 : Int32)), (.int (0 : Int32))] := V_b37
  replace r : A0 l Z n0 D h58 4 79 326 #[.val (.long dg), .second, .val (.int sh), .val (.int pt), .val (.int ps), .val (.int ij_), .val (.long v6_1), .second, .val (.int v8_2), .val (.int v9_3), .val (.int m4), .val (.int m6), .val (.int v12_9), .val (.int v13_10), .val (.int m11), .val (.int v15_13), .val (.int m14), .val (.int m19), .val (.int m29), .val (.int m31), .val (.int m33), .val (.int m35), .val (.ref b37), .unset, .unset, .unset, .unset] [(.ref b37)] := Own.aload r at_324 rfl rfl
  replace r : A0 l Z n0 D h58 4 79 327 #[.val (.long dg), .second, .val (.int sh), .val (.int pt), .val (.int ps), .val (.int ij_), .val (.long v6_1), .second, .val (.int v8_2), .val (.int v9_3), .val (.int m4), .val (.int m6), .val (.int v12_9), .val (.int v13_10), .val (.int m11), .val (.int v15_13), .val (.int m14), .val (.int m19), .val (.int m29), .val (.int m31), .val (.int m33), .val (.int m35), .val (.ref b37), .unset, .unset, .unset, .unset] [(.int (3 : Int32)), (.ref b37)] := Own.iconst r at_326 rfl
  replace r : A0 l Z n0 D h58 4 79 328 #[.val (.long dg), .second, .val (.int sh), .val (.int pt), .val (.int ps), .val (.int ij_), .val (.long v6_1), .second, .val (.int v8_2), .val (.int v9_3), .val (.int m4), .val (.int m6), .val (.int v12_9), .val (.int v13_10), .val (.int m11), .val (.int v15_13), .val (.int m14), .val (.int m19), .val (.int m29), .val (.int m31), .val (.int m33), .val (.int m35), .val (.ref b37), .unset, .unset, .unset, .unset] [(.int (3 : Int32)), (.int (3 : Int32)), (.ref b37)] := Own.iconst r at_327 rfl
  replace r : A0 l Z n0 D h58 4 79 330 #[.val (.long dg), .second, .val (.int sh), .val (.int pt), .val (.int ps), .val (.int ij_), .val (.long v6_1), .second, .val (.int v8_2), .val (.int v9_3), .val (.int m4), .val (.int m6), .val (.int v12_9), .val (.int v13_10), .val (.int m11), .val (.int v15_13), .val (.int m14), .val (.int m19), .val (.int m29), .val (.int m31), .val (.int m33), .val (.int m35), .val (.ref b37), .unset, .unset, .unset, .unset] [(.int v9_3), (.int (3 : Int32)), (.int (3 : Int32)), (.ref b37)] := Own.iload r at_328 rfl
  replace r : A0 l Z n0 D h58 4 79 331 #[.val (.long dg), .second, .val (.int sh), .val (.int pt), .val (.int ps), .val (.int ij_), .val (.long v6_1), .second, .val (.int v8_2), .val (.int v9_3), .val (.int m4), .val (.int m6), .val (.int v12_9), .val (.int v13_10), .val (.int m11), .val (.int v15_13), .val (.int m14), .val (.int m19), .val (.int m29), .val (.int m31), .val (.int m33), .val (.int m35), .val (.ref b37), .unset, .unset, .unset, .unset] [(.int ((3 : Int32) - v9_3)), (.int (3 : Int32)), (.ref b37)] := Own.isub r at_330
  replace r : A0 l Z n0 D h58 4 79 333 #[.val (.long dg), .second, .val (.int sh), .val (.int pt), .val (.int ps), .val (.int ij_), .val (.long v6_1), .second, .val (.int v8_2), .val (.int v9_3), .val (.int m4), .val (.int m6), .val (.int v12_9), .val (.int v13_10), .val (.int m11), .val (.int v15_13), .val (.int m14), .val (.int m19), .val (.int m29), .val (.int m31), .val (.int m33), .val (.int m35), .val (.ref b37), .unset, .unset, .unset, .unset] [(.int v8_2), (.int ((3 : Int32) - v9_3)), (.int (3 : Int32)), (.ref b37)] := Own.iload r at_331 rfl
  replace r : A0 l Z n0 D h58 4 79 335 #[.val (.long dg), .second, .val (.int sh), .val (.int pt), .val (.int ps), .val (.int ij_), .val (.long v6_1), .second, .val (.int v8_2), .val (.int v9_3), .val (.int m4), .val (.int m6), .val (.int v12_9), .val (.int v13_10), .val (.int m11), .val (.int v15_13), .val (.int m14), .val (.int m19), .val (.int m29), .val (.int m31), .val (.int m33), .val (.int m35), .val (.ref b37), .unset, .unset, .unset, .unset] [(.int m6), (.int v8_2), (.int ((3 : Int32) - v9_3)), (.int (3 : Int32)), (.ref b37)] := Own.iload r at_333 rfl
  replace r : A0 l Z n0 D h58 4 79 337 #[.val (.long dg), .second, .val (.int sh), .val (.int pt), .val (.int ps), .val (.int ij_), .val (.long v6_1), .second, .val (.int v8_2), .val (.int v9_3), .val (.int m4), .val (.int m6), .val (.int v12_9), .val (.int v13_10), .val (.int m11), .val (.int v15_13), .val (.int m14), .val (.int m19), .val (.int m29), .val (.int m31), .val (.int m33), .val (.int m35), .val (.ref b37), .unset, .unset, .unset, .unset] [(.int m31), (.int m6), (.int v8_2), (.int ((3 : Int32) - v9_3)), (.int (3 : Int32)), (.ref b37)] := Own.iload r at_335 rfl
  replace r : A0 l Z n0 D h58 4 79 339 #[.val (.long dg), .second, .val (.int sh), .val (.int pt), .val (.int ps), .val (.int ij_), .val (.long v6_1), .second, .val (.int v8_2), .val (.int v9_3), .val (.int m4), .val (.int m6), .val (.int v12_9), .val (.int v13_10), .val (.int m11), .val (.int v15_13), .val (.int m14), .val (.int m19), .val (.int m29), .val (.int m31), .val (.int m33), .val (.int m35), .val (.ref b37), .unset, .unset, .unset, .unset] [(.long v6_1), (.int m31), (.int m6), (.int v8_2), (.int ((3 : Int32) - v9_3)), (.int (3 : Int32)), (.ref b37)] := Own.lload r at_337 rfl
  replace r : A0 l Z n0 D h58 4 79 341 #[.val (.long dg), .second, .val (.int sh), .val (.int pt), .val (.int ps), .val (.int ij_), .val (.long v6_1), .second, .val (.int v8_2), .val (.int v9_3), .val (.int m4), .val (.int m6), .val (.int v12_9), .val (.int v13_10), .val (.int m11), .val (.int v15_13), .val (.int m14), .val (.int m19), .val (.int m29), .val (.int m31), .val (.int m33), .val (.int m35), .val (.ref b37), .unset, .unset, .unset, .unset] [(.int m19), (.long v6_1), (.int m31), (.int m6), (.int v8_2), (.int ((3 : Int32) - v9_3)), (.int (3 : Int32)), (.ref b37)] := Own.iload r at_339 rfl
  replace r : A0 l Z n0 D h58 4 79 343 #[.val (.long dg), .second, .val (.int sh), .val (.int pt), .val (.int ps), .val (.int ij_), .val (.long v6_1), .second, .val (.int v8_2), .val (.int v9_3), .val (.int m4), .val (.int m6), .val (.int v12_9), .val (.int v13_10), .val (.int m11), .val (.int v15_13), .val (.int m14), .val (.int m19), .val (.int m29), .val (.int m31), .val (.int m33), .val (.int m35), .val (.ref b37), .unset, .unset, .unset, .unset] [(.int m11), (.int m19), (.long v6_1), (.int m31), (.int m6), (.int v8_2), (.int ((3 : Int32) - v9_3)), (.int (3 : Int32)), (.ref b37)] := Own.iload r at_341 rfl
  replace r : A0 l Z n0 D h58 4 79 345 #[.val (.long dg), .second, .val (.int sh), .val (.int pt), .val (.int ps), .val (.int ij_), .val (.long v6_1), .second, .val (.int v8_2), .val (.int v9_3), .val (.int m4), .val (.int m6), .val (.int v12_9), .val (.int v13_10), .val (.int m11), .val (.int v15_13), .val (.int m14), .val (.int m19), .val (.int m29), .val (.int m31), .val (.int m33), .val (.int m35), .val (.ref b37), .unset, .unset, .unset, .unset] [(.int m29), (.int m11), (.int m19), (.long v6_1), (.int m31), (.int m6), (.int v8_2), (.int ((3 : Int32) - v9_3)), (.int (3 : Int32)), (.ref b37)] := Own.iload r at_343 rfl
  obtain ⟨rv59, h60, hQ61, r⟩ := Own.callS [(.int ((3 : Int32) - v9_3)), (.int v8_2), (.int m6), (.int m31), (.long v6_1), (.int m19), (.int m11), (.int m29)] r at_345 (c1 l Z a0 hw n0 h58 Zs ((3 : Int32) - v9_3) v8_2 m6 m31 v6_1 m19 m11 m29 hA hj) (hw _ (List.mem_of_getElem? (i := 3) rfl)) (hw _ (List.mem_of_getElem? (i := 4) rfl)) (hw _ (List.mem_of_getElem? (i := 5) rfl)) (hw _ (List.mem_of_getElem? (i := 6) rfl)) (lenOf pd_0_0 rfl) rfl rfl (W := 2) (Nat.le_of_eq rfl) rfl (by decide) (by decide) (by decide) (by decide) (by decide)
  obtain ⟨K62, y63, rfl, e_y63⟩ := hQ61
  replace V_b37 := V_b37.keep K62 (by simp)
  replace Zs := Nat.le_trans Zs K62.1
  replace r : A0 l Z n0 D h60 5 98 348 #[.val (.long dg), .second, .val (.int sh), .val (.int pt), .val (.int ps), .val (.int ij_), .val (.long v6_1), .second, .val (.int v8_2), .val (.int v9_3), .val (.int m4), .val (.int m6), .val (.int v12_9), .val (.int v13_10), .val (.int m11), .val (.int v15_13), .val (.int m14), .val (.int m19), .val (.int m29), .val (.int m31), .val (.int m33), .val (.int m35), .val (.ref b37), .unset, .unset, .unset, .unset] [(.int y63), (.int (3 : Int32)), (.ref b37)] := r
  obtain ⟨h65, ⟨W64, V_b37⟩, r⟩ := Own.bastore r at_348 V_b37 (by decide) (Nat.le_of_ble_eq_true rfl) ge_b37
  replace r : A0 l Z n0 D h65 5 98 349 #[.val (.long dg), .second, .val (.int sh), .val (.int pt), .val (.int ps), .val (.int ij_), .val (.long v6_1), .second, .val (.int v8_2), .val (.int v9_3), .val (.int m4), .val (.int m6), .val (.int v12_9), .val (.int v13_10), .val (.int m11), .val (.int v15_13), .val (.int m14), .val (.int m19), .val (.int m29), .val (.int m31), .val (.int m33), .val (.int m35), .val (.ref b37), .unset, .unset, .unset, .unset] [] := r
  replace Zs := Nat.le_trans Zs (Nat.le_of_eq W64.size.symm)
  replace V_b37 : Own.VA Z h65 b37 .byte [(.int (nar .byte y42)), (.int (nar .byte y49)), (.int (nar .byte y56)), (.int (nar .byte y63)), (.int (0 : Int32)), (.int (0 : Int32)), (.int (0 : Int32)), (.int (0 : Int32)), (.int (0 : Int32)), (.int (0 : Int32)), (.int (0 : Int32)), (.int (0 : Int32)), (.int (0 : Int32)), (.int (0 : Int32)), (.int (0 : Int32)), (.int (0 : Int32)), (.int (0 : Int32)), (.int (0 : Int32)), (.int (0 : Int32)), (.int (0 : Int32)), (.int (0 : Int32)), (.int (0 : Int32))] := V_b37
  replace r : A0 l Z n0 D h65 5 98 351 #[.val (.long dg), .second, .val (.int sh), .val (.int pt), .val (.int ps), .val (.int ij_), .val (.long v6_1), .second, .val (.int v8_2), .val (.int v9_3), .val (.int m4), .val (.int m6), .val (.int v12_9), .val (.int v13_10), .val (.int m11), .val (.int v15_13), .val (.int m14), .val (.int m19), .val (.int m29), .val (.int m31), .val (.int m33), .val (.int m35), .val (.ref b37), .unset, .unset, .unset, .unset] [(.ref b37)] := Own.aload r at_349 rfl rfl
  replace r : A0 l Z n0 D h65 5 98 352 #[.val (.long dg), .second, .val (.int sh), .val (.int pt), .val (.int ps), .val (.int ij_), .val (.long v6_1), .second, .val (.int v8_2), .val (.int v9_3), .val (.int m4), .val (.int m6), .val (.int v12_9), .val (.int v13_10), .val (.int m11), .val (.int v15_13), .val (.int m14), .val (.int m19), .val (.int m29), .val (.int m31), .val (.int m33), .val (.int m35), .val (.ref b37), .unset, .unset, .unset, .unset] [(.int (4 : Int32)), (.ref b37)] := Own.iconst r at_351 rfl
  replace r : A0 l Z n0 D h65 5 98 353 #[.val (.long dg), .second, .val (.int sh), .val (.int pt), .val (.int ps), .val (.int ij_), .val (.long v6_1), .second, .val (.int v8_2), .val (.int v9_3), .val (.int m4), .val (.int m6), .val (.int v12_9), .val (.int v13_10), .val (.int m11), .val (.int v15_13), .val (.int m14), .val (.int m19), .val (.int m29), .val (.int m31), .val (.int m33), .val (.int m35), .val (.ref b37), .unset, .unset, .unset, .unset] [(.int (4 : Int32)), (.int (4 : Int32)), (.ref b37)] := Own.iconst r at_352 rfl
  replace r : A0 l Z n0 D h65 5 98 355 #[.val (.long dg), .second, .val (.int sh), .val (.int pt), .val (.int ps), .val (.int ij_), .val (.long v6_1), .second, .val (.int v8_2), .val (.int v9_3), .val (.int m4), .val (.int m6), .val (.int v12_9), .val (.int v13_10), .val (.int m11), .val (.int v15_13), .val (.int m14), .val (.int m19), .val (.int m29), .val (.int m31), .val (.int m33), .val (.int m35), .val (.ref b37), .unset, .unset, .unset, .unset] [(.int v9_3), (.int (4 : Int32)), (.int (4 : Int32)), (.ref b37)] := Own.iload r at_353 rfl
  replace r : A0 l Z n0 D h65 5 98 356 #[.val (.long dg), .second, .val (.int sh), .val (.int pt), .val (.int ps), .val (.int ij_), .val (.long v6_1), .second, .val (.int v8_2), .val (.int v9_3), .val (.int m4), .val (.int m6), .val (.int v12_9), .val (.int v13_10), .val (.int m11), .val (.int v15_13), .val (.int m14), .val (.int m19), .val (.int m29), .val (.int m31), .val (.int m33), .val (.int m35), .val (.ref b37), .unset, .unset, .unset, .unset] [(.int ((4 : Int32) - v9_3)), (.int (4 : Int32)), (.ref b37)] := Own.isub r at_355
  replace r : A0 l Z n0 D h65 5 98 358 #[.val (.long dg), .second, .val (.int sh), .val (.int pt), .val (.int ps), .val (.int ij_), .val (.long v6_1), .second, .val (.int v8_2), .val (.int v9_3), .val (.int m4), .val (.int m6), .val (.int v12_9), .val (.int v13_10), .val (.int m11), .val (.int v15_13), .val (.int m14), .val (.int m19), .val (.int m29), .val (.int m31), .val (.int m33), .val (.int m35), .val (.ref b37), .unset, .unset, .unset, .unset] [(.int v8_2), (.int ((4 : Int32) - v9_3)), (.int (4 : Int32)), (.ref b37)] := Own.iload r at_356 rfl
  replace r : A0 l Z n0 D h65 5 98 360 #[.val (.long dg), .second, .val (.int sh), .val (.int pt), .val (.int ps), .val (.int ij_), .val (.long v6_1), .second, .val (.int v8_2), .val (.int v9_3), .val (.int m4), .val (.int m6), .val (.int v12_9), .val (.int v13_10), .val (.int m11), .val (.int v15_13), .val (.int m14), .val (.int m19), .val (.int m29), .val (.int m31), .val (.int m33), .val (.int m35), .val (.ref b37), .unset, .unset, .unset, .unset] [(.int m6), (.int v8_2), (.int ((4 : Int32) - v9_3)), (.int (4 : Int32)), (.ref b37)] := Own.iload r at_358 rfl
  replace r : A0 l Z n0 D h65 5 98 362 #[.val (.long dg), .second, .val (.int sh), .val (.int pt), .val (.int ps), .val (.int ij_), .val (.long v6_1), .second, .val (.int v8_2), .val (.int v9_3), .val (.int m4), .val (.int m6), .val (.int v12_9), .val (.int v13_10), .val (.int m11), .val (.int v15_13), .val (.int m14), .val (.int m19), .val (.int m29), .val (.int m31), .val (.int m33), .val (.int m35), .val (.ref b37), .unset, .unset, .unset, .unset] [(.int m31), (.int m6), (.int v8_2), (.int ((4 : Int32) - v9_3)), (.int (4 : Int32)), (.ref b37)] := Own.iload r at_360 rfl
  replace r : A0 l Z n0 D h65 5 98 364 #[.val (.long dg), .second, .val (.int sh), .val (.int pt), .val (.int ps), .val (.int ij_), .val (.long v6_1), .second, .val (.int v8_2), .val (.int v9_3), .val (.int m4), .val (.int m6), .val (.int v12_9), .val (.int v13_10), .val (.int m11), .val (.int v15_13), .val (.int m14), .val (.int m19), .val (.int m29), .val (.int m31), .val (.int m33), .val (.int m35), .val (.ref b37), .unset, .unset, .unset, .unset] [(.long v6_1), (.int m31), (.int m6), (.int v8_2), (.int ((4 : Int32) - v9_3)), (.int (4 : Int32)), (.ref b37)] := Own.lload r at_362 rfl
  replace r : A0 l Z n0 D h65 5 98 366 #[.val (.long dg), .second, .val (.int sh), .val (.int pt), .val (.int ps), .val (.int ij_), .val (.long v6_1), .second, .val (.int v8_2), .val (.int v9_3), .val (.int m4), .val (.int m6), .val (.int v12_9), .val (.int v13_10), .val (.int m11), .val (.int v15_13), .val (.int m14), .val (.int m19), .val (.int m29), .val (.int m31), .val (.int m33), .val (.int m35), .val (.ref b37), .unset, .unset, .unset, .unset] [(.int m19), (.long v6_1), (.int m31), (.int m6), (.int v8_2), (.int ((4 : Int32) - v9_3)), (.int (4 : Int32)), (.ref b37)] := Own.iload r at_364 rfl
  replace r : A0 l Z n0 D h65 5 98 368 #[.val (.long dg), .second, .val (.int sh), .val (.int pt), .val (.int ps), .val (.int ij_), .val (.long v6_1), .second, .val (.int v8_2), .val (.int v9_3), .val (.int m4), .val (.int m6), .val (.int v12_9), .val (.int v13_10), .val (.int m11), .val (.int v15_13), .val (.int m14), .val (.int m19), .val (.int m29), .val (.int m31), .val (.int m33), .val (.int m35), .val (.ref b37), .unset, .unset, .unset, .unset] [(.int m11), (.int m19), (.long v6_1), (.int m31), (.int m6), (.int v8_2), (.int ((4 : Int32) - v9_3)), (.int (4 : Int32)), (.ref b37)] := Own.iload r at_366 rfl
  replace r : A0 l Z n0 D h65 5 98 370 #[.val (.long dg), .second, .val (.int sh), .val (.int pt), .val (.int ps), .val (.int ij_), .val (.long v6_1), .second, .val (.int v8_2), .val (.int v9_3), .val (.int m4), .val (.int m6), .val (.int v12_9), .val (.int v13_10), .val (.int m11), .val (.int v15_13), .val (.int m14), .val (.int m19), .val (.int m29), .val (.int m31), .val (.int m33), .val (.int m35), .val (.ref b37), .unset, .unset, .unset, .unset] [(.int m29), (.int m11), (.int m19), (.long v6_1), (.int m31), (.int m6), (.int v8_2), (.int ((4 : Int32) - v9_3)), (.int (4 : Int32)), (.ref b37)] := Own.iload r at_368 rfl
  obtain ⟨rv66, h67, hQ68, r⟩ := Own.callS [(.int ((4 : Int32) - v9_3)), (.int v8_2), (.int m6), (.int m31), (.long v6_1), (.int m19), (.int m11), (.int m29)] r at_370 (c1 l Z a0 hw n0 h65 Zs ((4 : Int32) - v9_3) v8_2 m6 m31 v6_1 m19 m11 m29 hA hj) (hw _ (List.mem_of_getElem? (i := 3) rfl)) (hw _ (List.mem_of_getElem? (i := 4) rfl)) (hw _ (List.mem_of_getElem? (i := 5) rfl)) (hw _ (List.mem_of_getElem? (i := 6) rfl)) (lenOf pd_0_0 rfl) rfl rfl (W := 2) (Nat.le_of_eq rfl) rfl (by decide) (by decide) (by decide) (by decide) (by decide)
  obtain ⟨K69, y70, rfl, e_y70⟩ := hQ68
  replace V_b37 := V_b37.keep K69 (by simp)
  replace Zs := Nat.le_trans Zs K69.1
  replace r : A0 l Z n0 D h67 6 117 373 #[.val (.long dg), .second, .val (.int sh), .val (.int pt), .val (.int ps), .val (.int ij_), .val (.long v6_1), .second, .val (.int v8_2), .val (.int v9_3), .val (.int m4), .val (.int m6), .val (.int v12_9), .val (.int v13_10), .val (.int m11), .val (.int v15_13), .val (.int m14), .val (.int m19), .val (.int m29), .val (.int m31), .val (.int m33), .val (.int m35), .val (.ref b37), .unset, .unset, .unset, .unset] [(.int y70), (.int (4 : Int32)), (.ref b37)] := r
  obtain ⟨h72, ⟨W71, V_b37⟩, r⟩ := Own.bastore r at_373 V_b37 (by decide) (Nat.le_of_ble_eq_true rfl) ge_b37
  replace r : A0 l Z n0 D h72 6 117 374 #[.val (.long dg), .second, .val (.int sh), .val (.int pt), .val (.int ps), .val (.int ij_), .val (.long v6_1), .second, .val (.int v8_2), .val (.int v9_3), .val (.int m4), .val (.int m6), .val (.int v12_9), .val (.int v13_10), .val (.int m11), .val (.int v15_13), .val (.int m14), .val (.int m19), .val (.int m29), .val (.int m31), .val (.int m33), .val (.int m35), .val (.ref b37), .unset, .unset, .unset, .unset] [] := r
  replace Zs := Nat.le_trans Zs (Nat.le_of_eq W71.size.symm)
  replace V_b37 : Own.VA Z h72 b37 .byte [(.int (nar .byte y42)), (.int (nar .byte y49)), (.int (nar .byte y56)), (.int (nar .byte y63)), (.int (nar .byte y70)), (.int (0 : Int32)), (.int (0 : Int32)), (.int (0 : Int32)), (.int (0 : Int32)), (.int (0 : Int32)), (.int (0 : Int32)), (.int (0 : Int32)), (.int (0 : Int32)), (.int (0 : Int32)), (.int (0 : Int32)), (.int (0 : Int32)), (.int (0 : Int32)), (.int (0 : Int32)), (.int (0 : Int32)), (.int (0 : Int32)), (.int (0 : Int32)), (.int (0 : Int32))] := V_b37
  replace r : A0 l Z n0 D h72 6 117 376 #[.val (.long dg), .second, .val (.int sh), .val (.int pt), .val (.int ps), .val (.int ij_), .val (.long v6_1), .second, .val (.int v8_2), .val (.int v9_3), .val (.int m4), .val (.int m6), .val (.int v12_9), .val (.int v13_10), .val (.int m11), .val (.int v15_13), .val (.int m14), .val (.int m19), .val (.int m29), .val (.int m31), .val (.int m33), .val (.int m35), .val (.ref b37), .unset, .unset, .unset, .unset] [(.ref b37)] := Own.aload r at_374 rfl rfl
  replace r : A0 l Z n0 D h72 6 117 377 #[.val (.long dg), .second, .val (.int sh), .val (.int pt), .val (.int ps), .val (.int ij_), .val (.long v6_1), .second, .val (.int v8_2), .val (.int v9_3), .val (.int m4), .val (.int m6), .val (.int v12_9), .val (.int v13_10), .val (.int m11), .val (.int v15_13), .val (.int m14), .val (.int m19), .val (.int m29), .val (.int m31), .val (.int m33), .val (.int m35), .val (.ref b37), .unset, .unset, .unset, .unset] [(.int (5 : Int32)), (.ref b37)] := Own.iconst r at_376 rfl
  replace r : A0 l Z n0 D h72 6 117 378 #[.val (.long dg), .second, .val (.int sh), .val (.int pt), .val (.int ps), .val (.int ij_), .val (.long v6_1), .second, .val (.int v8_2), .val (.int v9_3), .val (.int m4), .val (.int m6), .val (.int v12_9), .val (.int v13_10), .val (.int m11), .val (.int v15_13), .val (.int m14), .val (.int m19), .val (.int m29), .val (.int m31), .val (.int m33), .val (.int m35), .val (.ref b37), .unset, .unset, .unset, .unset] [(.int (5 : Int32)), (.int (5 : Int32)), (.ref b37)] := Own.iconst r at_377 rfl
  replace r : A0 l Z n0 D h72 6 117 380 #[.val (.long dg), .second, .val (.int sh), .val (.int pt), .val (.int ps), .val (.int ij_), .val (.long v6_1), .second, .val (.int v8_2), .val (.int v9_3), .val (.int m4), .val (.int m6), .val (.int v12_9), .val (.int v13_10), .val (.int m11), .val (.int v15_13), .val (.int m14), .val (.int m19), .val (.int m29), .val (.int m31), .val (.int m33), .val (.int m35), .val (.ref b37), .unset, .unset, .unset, .unset] [(.int v9_3), (.int (5 : Int32)), (.int (5 : Int32)), (.ref b37)] := Own.iload r at_378 rfl
  replace r : A0 l Z n0 D h72 6 117 381 #[.val (.long dg), .second, .val (.int sh), .val (.int pt), .val (.int ps), .val (.int ij_), .val (.long v6_1), .second, .val (.int v8_2), .val (.int v9_3), .val (.int m4), .val (.int m6), .val (.int v12_9), .val (.int v13_10), .val (.int m11), .val (.int v15_13), .val (.int m14), .val (.int m19), .val (.int m29), .val (.int m31), .val (.int m33), .val (.int m35), .val (.ref b37), .unset, .unset, .unset, .unset] [(.int ((5 : Int32) - v9_3)), (.int (5 : Int32)), (.ref b37)] := Own.isub r at_380
  replace r : A0 l Z n0 D h72 6 117 383 #[.val (.long dg), .second, .val (.int sh), .val (.int pt), .val (.int ps), .val (.int ij_), .val (.long v6_1), .second, .val (.int v8_2), .val (.int v9_3), .val (.int m4), .val (.int m6), .val (.int v12_9), .val (.int v13_10), .val (.int m11), .val (.int v15_13), .val (.int m14), .val (.int m19), .val (.int m29), .val (.int m31), .val (.int m33), .val (.int m35), .val (.ref b37), .unset, .unset, .unset, .unset] [(.int v8_2), (.int ((5 : Int32) - v9_3)), (.int (5 : Int32)), (.ref b37)] := Own.iload r at_381 rfl
  replace r : A0 l Z n0 D h72 6 117 385 #[.val (.long dg), .second, .val (.int sh), .val (.int pt), .val (.int ps), .val (.int ij_), .val (.long v6_1), .second, .val (.int v8_2), .val (.int v9_3), .val (.int m4), .val (.int m6), .val (.int v12_9), .val (.int v13_10), .val (.int m11), .val (.int v15_13), .val (.int m14), .val (.int m19), .val (.int m29), .val (.int m31), .val (.int m33), .val (.int m35), .val (.ref b37), .unset, .unset, .unset, .unset] [(.int m6), (.int v8_2), (.int ((5 : Int32) - v9_3)), (.int (5 : Int32)), (.ref b37)] := Own.iload r at_383 rfl
  replace r : A0 l Z n0 D h72 6 117 387 #[.val (.long dg), .second, .val (.int sh), .val (.int pt), .val (.int ps), .val (.int ij_), .val (.long v6_1), .second, .val (.int v8_2), .val (.int v9_3), .val (.int m4), .val (.int m6), .val (.int v12_9), .val (.int v13_10), .val (.int m11), .val (.int v15_13), .val (.int m14), .val (.int m19), .val (.int m29), .val (.int m31), .val (.int m33), .val (.int m35), .val (.ref b37), .unset, .unset, .unset, .unset] [(.int m31), (.int m6), (.int v8_2), (.int ((5 : Int32) - v9_3)), (.int (5 : Int32)), (.ref b37)] := Own.iload r at_385 rfl
  replace r : A0 l Z n0 D h72 6 117 389 #[.val (.long dg), .second, .val (.int sh), .val (.int pt), .val (.int ps), .val (.int ij_), .val (.long v6_1), .second, .val (.int v8_2), .val (.int v9_3), .val (.int m4), .val (.int m6), .val (.int v12_9), .val (.int v13_10), .val (.int m11), .val (.int v15_13), .val (.int m14), .val (.int m19), .val (.int m29), .val (.int m31), .val (.int m33), .val (.int m35), .val (.ref b37), .unset, .unset, .unset, .unset] [(.long v6_1), (.int m31), (.int m6), (.int v8_2), (.int ((5 : Int32) - v9_3)), (.int (5 : Int32)), (.ref b37)] := Own.lload r at_387 rfl
  replace r : A0 l Z n0 D h72 6 117 391 #[.val (.long dg), .second, .val (.int sh), .val (.int pt), .val (.int ps), .val (.int ij_), .val (.long v6_1), .second, .val (.int v8_2), .val (.int v9_3), .val (.int m4), .val (.int m6), .val (.int v12_9), .val (.int v13_10), .val (.int m11), .val (.int v15_13), .val (.int m14), .val (.int m19), .val (.int m29), .val (.int m31), .val (.int m33), .val (.int m35), .val (.ref b37), .unset, .unset, .unset, .unset] [(.int m19), (.long v6_1), (.int m31), (.int m6), (.int v8_2), (.int ((5 : Int32) - v9_3)), (.int (5 : Int32)), (.ref b37)] := Own.iload r at_389 rfl
  replace r : A0 l Z n0 D h72 6 117 393 #[.val (.long dg), .second, .val (.int sh), .val (.int pt), .val (.int ps), .val (.int ij_), .val (.long v6_1), .second, .val (.int v8_2), .val (.int v9_3), .val (.int m4), .val (.int m6), .val (.int v12_9), .val (.int v13_10), .val (.int m11), .val (.int v15_13), .val (.int m14), .val (.int m19), .val (.int m29), .val (.int m31), .val (.int m33), .val (.int m35), .val (.ref b37), .unset, .unset, .unset, .unset] [(.int m11), (.int m19), (.long v6_1), (.int m31), (.int m6), (.int v8_2), (.int ((5 : Int32) - v9_3)), (.int (5 : Int32)), (.ref b37)] := Own.iload r at_391 rfl
  replace r : A0 l Z n0 D h72 6 117 395 #[.val (.long dg), .second, .val (.int sh), .val (.int pt), .val (.int ps), .val (.int ij_), .val (.long v6_1), .second, .val (.int v8_2), .val (.int v9_3), .val (.int m4), .val (.int m6), .val (.int v12_9), .val (.int v13_10), .val (.int m11), .val (.int v15_13), .val (.int m14), .val (.int m19), .val (.int m29), .val (.int m31), .val (.int m33), .val (.int m35), .val (.ref b37), .unset, .unset, .unset, .unset] [(.int m29), (.int m11), (.int m19), (.long v6_1), (.int m31), (.int m6), (.int v8_2), (.int ((5 : Int32) - v9_3)), (.int (5 : Int32)), (.ref b37)] := Own.iload r at_393 rfl
  obtain ⟨rv73, h74, hQ75, r⟩ := Own.callS [(.int ((5 : Int32) - v9_3)), (.int v8_2), (.int m6), (.int m31), (.long v6_1), (.int m19), (.int m11), (.int m29)] r at_395 (c1 l Z a0 hw n0 h72 Zs ((5 : Int32) - v9_3) v8_2 m6 m31 v6_1 m19 m11 m29 hA hj) (hw _ (List.mem_of_getElem? (i := 3) rfl)) (hw _ (List.mem_of_getElem? (i := 4) rfl)) (hw _ (List.mem_of_getElem? (i := 5) rfl)) (hw _ (List.mem_of_getElem? (i := 6) rfl)) (lenOf pd_0_0 rfl) rfl rfl (W := 2) (Nat.le_of_eq rfl) rfl (by decide) (by decide) (by decide) (by decide) (by decide)
  obtain ⟨K76, y77, rfl, e_y77⟩ := hQ75
  replace V_b37 := V_b37.keep K76 (by simp)
  replace Zs := Nat.le_trans Zs K76.1
  replace r : A0 l Z n0 D h74 7 136 398 #[.val (.long dg), .second, .val (.int sh), .val (.int pt), .val (.int ps), .val (.int ij_), .val (.long v6_1), .second, .val (.int v8_2), .val (.int v9_3), .val (.int m4), .val (.int m6), .val (.int v12_9), .val (.int v13_10), .val (.int m11), .val (.int v15_13), .val (.int m14), .val (.int m19), .val (.int m29), .val (.int m31), .val (.int m33), .val (.int m35), .val (.ref b37), .unset, .unset, .unset, .unset] [(.int y77), (.int (5 : Int32)), (.ref b37)] := r
  obtain ⟨h79, ⟨W78, V_b37⟩, r⟩ := Own.bastore r at_398 V_b37 (by decide) (Nat.le_of_ble_eq_true rfl) ge_b37
  replace r : A0 l Z n0 D h79 7 136 399 #[.val (.long dg), .second, .val (.int sh), .val (.int pt), .val (.int ps), .val (.int ij_), .val (.long v6_1), .second, .val (.int v8_2), .val (.int v9_3), .val (.int m4), .val (.int m6), .val (.int v12_9), .val (.int v13_10), .val (.int m11), .val (.int v15_13), .val (.int m14), .val (.int m19), .val (.int m29), .val (.int m31), .val (.int m33), .val (.int m35), .val (.ref b37), .unset, .unset, .unset, .unset] [] := r
  replace Zs := Nat.le_trans Zs (Nat.le_of_eq W78.size.symm)
  replace V_b37 : Own.VA Z h79 b37 .byte [(.int (nar .byte y42)), (.int (nar .byte y49)), (.int (nar .byte y56)), (.int (nar .byte y63)), (.int (nar .byte y70)), (.int (nar .byte y77)), (.int (0 : Int32)), (.int (0 : Int32)), (.int (0 : Int32)), (.int (0 : Int32)), (.int (0 : Int32)), (.int (0 : Int32)), (.int (0 : Int32)), (.int (0 : Int32)), (.int (0 : Int32)), (.int (0 : Int32)), (.int (0 : Int32)), (.int (0 : Int32)), (.int (0 : Int32)), (.int (0 : Int32)), (.int (0 : Int32)), (.int (0 : Int32))] := V_b37
  replace r : A0 l Z n0 D h79 7 136 401 #[.val (.long dg), .second, .val (.int sh), .val (.int pt), .val (.int ps), .val (.int ij_), .val (.long v6_1), .second, .val (.int v8_2), .val (.int v9_3), .val (.int m4), .val (.int m6), .val (.int v12_9), .val (.int v13_10), .val (.int m11), .val (.int v15_13), .val (.int m14), .val (.int m19), .val (.int m29), .val (.int m31), .val (.int m33), .val (.int m35), .val (.ref b37), .unset, .unset, .unset, .unset] [(.ref b37)] := Own.aload r at_399 rfl rfl
  replace r : A0 l Z n0 D h79 7 136 403 #[.val (.long dg), .second, .val (.int sh), .val (.int pt), .val (.int ps), .val (.int ij_), .val (.long v6_1), .second, .val (.int v8_2), .val (.int v9_3), .val (.int m4), .val (.int m6), .val (.int v12_9), .val (.int v13_10), .val (.int m11), .val (.int v15_13), .val (.int m14), .val (.int m19), .val (.int m29), .val (.int m31), .val (.int m33), .val (.int m35), .val (.ref b37), .unset, .unset, .unset, .unset] [(.int (6 : Int32)), (.ref b37)] := Own.bipush r at_401 rfl
  replace r : A0 l Z n0 D h79 7 136 405 #[.val (.long dg), .second, .val (.int sh), .val (.int pt), .val (.int ps), .val (.int ij_), .val (.long v6_1), .second, .val (.int v8_2), .val (.int v9_3), .val (.int m4), .val (.int m6), .val (.int v12_9), .val (.int v13_10), .val (.int m11), .val (.int v15_13), .val (.int m14), .val (.int m19), .val (.int m29), .val (.int m31), .val (.int m33), .val (.int m35), .val (.ref b37), .unset, .unset, .unset, .unset] [(.int (6 : Int32)), (.int (6 : Int32)), (.ref b37)] := Own.bipush r at_403 rfl
  replace r : A0 l Z n0 D h79 7 136 407 #[.val (.long dg), .second, .val (.int sh), .val (.int pt), .val (.int ps), .val (.int ij_), .val (.long v6_1), .second, .val (.int v8_2), .val (.int v9_3), .val (.int m4), .val (.int m6), .val (.int v12_9), .val (.int v13_10), .val (.int m11), .val (.int v15_13), .val (.int m14), .val (.int m19), .val (.int m29), .val (.int m31), .val (.int m33), .val (.int m35), .val (.ref b37), .unset, .unset, .unset, .unset] [(.int v9_3), (.int (6 : Int32)), (.int (6 : Int32)), (.ref b37)] := Own.iload r at_405 rfl
  replace r : A0 l Z n0 D h79 7 136 408 #[.val (.long dg), .second, .val (.int sh), .val (.int pt), .val (.int ps), .val (.int ij_), .val (.long v6_1), .second, .val (.int v8_2), .val (.int v9_3), .val (.int m4), .val (.int m6), .val (.int v12_9), .val (.int v13_10), .val (.int m11), .val (.int v15_13), .val (.int m14), .val (.int m19), .val (.int m29), .val (.int m31), .val (.int m33), .val (.int m35), .val (.ref b37), .unset, .unset, .unset, .unset] [(.int ((6 : Int32) - v9_3)), (.int (6 : Int32)), (.ref b37)] := Own.isub r at_407
  replace r : A0 l Z n0 D h79 7 136 410 #[.val (.long dg), .second, .val (.int sh), .val (.int pt), .val (.int ps), .val (.int ij_), .val (.long v6_1), .second, .val (.int v8_2), .val (.int v9_3), .val (.int m4), .val (.int m6), .val (.int v12_9), .val (.int v13_10), .val (.int m11), .val (.int v15_13), .val (.int m14), .val (.int m19), .val (.int m29), .val (.int m31), .val (.int m33), .val (.int m35), .val (.ref b37), .unset, .unset, .unset, .unset] [(.int v8_2), (.int ((6 : Int32) - v9_3)), (.int (6 : Int32)), (.ref b37)] := Own.iload r at_408 rfl
  replace r : A0 l Z n0 D h79 7 136 412 #[.val (.long dg), .second, .val (.int sh), .val (.int pt), .val (.int ps), .val (.int ij_), .val (.long v6_1), .second, .val (.int v8_2), .val (.int v9_3), .val (.int m4), .val (.int m6), .val (.int v12_9), .val (.int v13_10), .val (.int m11), .val (.int v15_13), .val (.int m14), .val (.int m19), .val (.int m29), .val (.int m31), .val (.int m33), .val (.int m35), .val (.ref b37), .unset, .unset, .unset, .unset] [(.int m6), (.int v8_2), (.int ((6 : Int32) - v9_3)), (.int (6 : Int32)), (.ref b37)] := Own.iload r at_410 rfl
  replace r : A0 l Z n0 D h79 7 136 414 #[.val (.long dg), .second, .val (.int sh), .val (.int pt), .val (.int ps), .val (.int ij_), .val (.long v6_1), .second, .val (.int v8_2), .val (.int v9_3), .val (.int m4), .val (.int m6), .val (.int v12_9), .val (.int v13_10), .val (.int m11), .val (.int v15_13), .val (.int m14), .val (.int m19), .val (.int m29), .val (.int m31), .val (.int m33), .val (.int m35), .val (.ref b37), .unset, .unset, .unset, .unset] [(.int m31), (.int m6), (.int v8_2), (.int ((6 : Int32) - v9_3)), (.int (6 : Int32)), (.ref b37)] := Own.iload r at_412 rfl
  replace r : A0 l Z n0 D h79 7 136 416 #[.val (.long dg), .second, .val (.int sh), .val (.int pt), .val (.int ps), .val (.int ij_), .val (.long v6_1), .second, .val (.int v8_2), .val (.int v9_3), .val (.int m4), .val (.int m6), .val (.int v12_9), .val (.int v13_10), .val (.int m11), .val (.int v15_13), .val (.int m14), .val (.int m19), .val (.int m29), .val (.int m31), .val (.int m33), .val (.int m35), .val (.ref b37), .unset, .unset, .unset, .unset] [(.long v6_1), (.int m31), (.int m6), (.int v8_2), (.int ((6 : Int32) - v9_3)), (.int (6 : Int32)), (.ref b37)] := Own.lload r at_414 rfl
  replace r : A0 l Z n0 D h79 7 136 418 #[.val (.long dg), .second, .val (.int sh), .val (.int pt), .val (.int ps), .val (.int ij_), .val (.long v6_1), .second, .val (.int v8_2), .val (.int v9_3), .val (.int m4), .val (.int m6), .val (.int v12_9), .val (.int v13_10), .val (.int m11), .val (.int v15_13), .val (.int m14), .val (.int m19), .val (.int m29), .val (.int m31), .val (.int m33), .val (.int m35), .val (.ref b37), .unset, .unset, .unset, .unset] [(.int m19), (.long v6_1), (.int m31), (.int m6), (.int v8_2), (.int ((6 : Int32) - v9_3)), (.int (6 : Int32)), (.ref b37)] := Own.iload r at_416 rfl
  replace r : A0 l Z n0 D h79 7 136 420 #[.val (.long dg), .second, .val (.int sh), .val (.int pt), .val (.int ps), .val (.int ij_), .val (.long v6_1), .second, .val (.int v8_2), .val (.int v9_3), .val (.int m4), .val (.int m6), .val (.int v12_9), .val (.int v13_10), .val (.int m11), .val (.int v15_13), .val (.int m14), .val (.int m19), .val (.int m29), .val (.int m31), .val (.int m33), .val (.int m35), .val (.ref b37), .unset, .unset, .unset, .unset] [(.int m11), (.int m19), (.long v6_1), (.int m31), (.int m6), (.int v8_2), (.int ((6 : Int32) - v9_3)), (.int (6 : Int32)), (.ref b37)] := Own.iload r at_418 rfl
  replace r : A0 l Z n0 D h79 7 136 422 #[.val (.long dg), .second, .val (.int sh), .val (.int pt), .val (.int ps), .val (.int ij_), .val (.long v6_1), .second, .val (.int v8_2), .val (.int v9_3), .val (.int m4), .val (.int m6), .val (.int v12_9), .val (.int v13_10), .val (.int m11), .val (.int v15_13), .val (.int m14), .val (.int m19), .val (.int m29), .val (.int m31), .val (.int m33), .val (.int m35), .val (.ref b37), .unset, .unset, .unset, .unset] [(.int m29), (.int m11), (.int m19), (.long v6_1), (.int m31), (.int m6), (.int v8_2), (.int ((6 : Int32) - v9_3)), (.int (6 : Int32)), (.ref b37)] := Own.iload r at_420 rfl
  obtain ⟨rv80, h81, hQ82, r⟩ := Own.callS [(.int ((6 : Int32) - v9_3)), (.int v8_2), (.int m6), (.int m31), (.long v6_1), (.int m19), (.int m11), (.int m29)] r at_422 (c1 l Z a0 hw n0 h79 Zs ((6 : Int32) - v9_3) v8_2 m6 m31 v6_1 m19 m11 m29 hA hj) (hw _ (List.mem_of_getElem? (i := 3) rfl)) (hw _ (List.mem_of_getElem? (i := 4) rfl)) (hw _ (List.mem_of_getElem? (i := 5) rfl)) (hw _ (List.mem_of_getElem? (i := 6) rfl)) (lenOf pd_0_0 rfl) rfl rfl (W := 2) (Nat.le_of_eq rfl) rfl (by decide) (by decide) (by decide) (by decide) (by decide)
  obtain ⟨K83, y84, rfl, e_y84⟩ := hQ82
  replace V_b37 := V_b37.keep K83 (by simp)
  replace Zs := Nat.le_trans Zs K83.1
  replace r : A0 l Z n0 D h81 8 155 425 #[.val (.long dg), .second, .val (.int sh), .val (.int pt), .val (.int ps), .val (.int ij_), .val (.long v6_1), .second, .val (.int v8_2), .val (.int v9_3), .val (.int m4), .val (.int m6), .val (.int v12_9), .val (.int v13_10), .val (.int m11), .val (.int v15_13), .val (.int m14), .val (.int m19), .val (.int m29), .val (.int m31), .val (.int m33), .val (.int m35), .val (.ref b37), .unset, .unset, .unset, .unset] [(.int y84), (.int (6 : Int32)), (.ref b37)] := r
  obtain ⟨h86, ⟨W85, V_b37⟩, r⟩ := Own.bastore r at_425 V_b37 (by decide) (Nat.le_of_ble_eq_true rfl) ge_b37
  replace r : A0 l Z n0 D h86 8 155 426 #[.val (.long dg), .second, .val (.int sh), .val (.int pt), .val (.int ps), .val (.int ij_), .val (.long v6_1), .second, .val (.int v8_2), .val (.int v9_3), .val (.int m4), .val (.int m6), .val (.int v12_9), .val (.int v13_10), .val (.int m11), .val (.int v15_13), .val (.int m14), .val (.int m19), .val (.int m29), .val (.int m31), .val (.int m33), .val (.int m35), .val (.ref b37), .unset, .unset, .unset, .unset] [] := r
  replace Zs := Nat.le_trans Zs (Nat.le_of_eq W85.size.symm)
  replace V_b37 : Own.VA Z h86 b37 .byte [(.int (nar .byte y42)), (.int (nar .byte y49)), (.int (nar .byte y56)), (.int (nar .byte y63)), (.int (nar .byte y70)), (.int (nar .byte y77)), (.int (nar .byte y84)), (.int (0 : Int32)), (.int (0 : Int32)), (.int (0 : Int32)), (.int (0 : Int32)), (.int (0 : Int32)), (.int (0 : Int32)), (.int (0 : Int32)), (.int (0 : Int32)), (.int (0 : Int32)), (.int (0 : Int32)), (.int (0 : Int32)), (.int (0 : Int32)), (.int (0 : Int32)), (.int (0 : Int32)), (.int (0 : Int32))] := V_b37
  replace r : A0 l Z n0 D h86 8 155 428 #[.val (.long dg), .second, .val (.int sh), .val (.int pt), .val (.int ps), .val (.int ij_), .val (.long v6_1), .second, .val (.int v8_2), .val (.int v9_3), .val (.int m4), .val (.int m6), .val (.int v12_9), .val (.int v13_10), .val (.int m11), .val (.int v15_13), .val (.int m14), .val (.int m19), .val (.int m29), .val (.int m31), .val (.int m33), .val (.int m35), .val (.ref b37), .unset, .unset, .unset, .unset] [(.ref b37)] := Own.aload r at_426 rfl rfl
  replace r : A0 l Z n0 D h86 8 155 430 #[.val (.long dg), .second, .val (.int sh), .val (.int pt), .val (.int ps), .val (.int ij_), .val (.long v6_1), .second, .val (.int v8_2), .val (.int v9_3), .val (.int m4), .val (.int m6), .val (.int v12_9), .val (.int v13_10), .val (.int m11), .val (.int v15_13), .val (.int m14), .val (.int m19), .val (.int m29), .val (.int m31), .val (.int m33), .val (.int m35), .val (.ref b37), .unset, .unset, .unset, .unset] [(.int (7 : Int32)), (.ref b37)] := Own.bipush r at_428 rfl
  replace r : A0 l Z n0 D h86 8 155 432 #[.val (.long dg), .second, .val (.int sh), .val (.int pt), .val (.int ps), .val (.int ij_), .val (.long v6_1), .second, .val (.int v8_2), .val (.int v9_3), .val (.int m4), .val (.int m6), .val (.int v12_9), .val (.int v13_10), .val (.int m11), .val (.int v15_13), .val (.int m14), .val (.int m19), .val (.int m29), .val (.int m31), .val (.int m33), .val (.int m35), .val (.ref b37), .unset, .unset, .unset, .unset] [(.int (7 : Int32)), (.int (7 : Int32)), (.ref b37)] := Own.bipush r at_430 rfl
  replace r : A0 l Z n0 D h86 8 155 434 #[.val (.long dg), .second, .val (.int sh), .val (.int pt), .val (.int ps), .val (.int ij_), .val (.long v6_1), .second, .val (.int v8_2), .val (.int v9_3), .val (.int m4), .val (.int m6), .val (.int v12_9), .val (.int v13_10), .val (.int m11), .val (.int v15_13), .val (.int m14), .val (.int m19), .val (.int m29), .val (.int m31), .val (.int m33), .val (.int m35), .val (.ref b37), .unset, .unset, .unset, .unset] [(.int v9_3), (.int (7 : Int32)), (.int (7 : Int32)), (.ref b37)] := Own.iload r at_432 rfl
  replace r : A0 l Z n0 D h86 8 155 435 #[.val (.long dg), .second, .val (.int sh), .val (.int pt), .val (.int ps), .val (.int ij_), .val (.long v6_1), .second, .val (.int v8_2), .val (.int v9_3), .val (.int m4), .val (.int m6), .val (.int v12_9), .val (.int v13_10), .val (.int m11), .val (.int v15_13), .val (.int m14), .val (.int m19), .val (.int m29), .val (.int m31), .val (.int m33), .val (.int m35), .val (.ref b37), .unset, .unset, .unset, .unset] [(.int ((7 : Int32) - v9_3)), (.int (7 : Int32)), (.ref b37)] := Own.isub r at_434
  replace r : A0 l Z n0 D h86 8 155 437 #[.val (.long dg), .second, .val (.int sh), .val (.int pt), .val (.int ps), .val (.int ij_), .val (.long v6_1), .second, .val (.int v8_2), .val (.int v9_3), .val (.int m4), .val (.int m6), .val (.int v12_9), .val (.int v13_10), .val (.int m11), .val (.int v15_13), .val (.int m14), .val (.int m19), .val (.int m29), .val (.int m31), .val (.int m33), .val (.int m35), .val (.ref b37), .unset, .unset, .unset, .unset] [(.int v8_2), (.int ((7 : Int32) - v9_3)), (.int (7 : Int32)), (.ref b37)] := Own.iload r at_435 rfl
  replace r : A0 l Z n0 D h86 8 155 439 #[.val (.long dg), .second, .val (.int sh), .val (.int pt), .val (.int ps), .val (.int ij_), .val (.long v6_1), .second, .val (.int v8_2), .val (.int v9_3), .val (.int m4), .val (.int m6), .val (.int v12_9), .val (.int v13_10), .val (.int m11), .val (.int v15_13), .val (.int m14), .val (.int m19), .val (.int m29), .val (.int m31), .val (.int m33), .val (.int m35), .val (.ref b37), .unset, .unset, .unset, .unset] [(.int m6), (.int v8_2), (.int ((7 : Int32) - v9_3)), (.int (7 : Int32)), (.ref b37)] := Own.iload r at_437 rfl
  replace r : A0 l Z n0 D h86 8 155 441 #[.val (.long dg), .second, .val (.int sh), .val (.int pt), .val (.int ps), .val (.int ij_), .val (.long v6_1), .second, .val (.int v8_2), .val (.int v9_3), .val (.int m4), .val (.int m6), .val (.int v12_9), .val (.int v13_10), .val (.int m11), .val (.int v15_13), .val (.int m14), .val (.int m19), .val (.int m29), .val (.int m31), .val (.int m33), .val (.int m35), .val (.ref b37), .unset, .unset, .unset, .unset] [(.int m31), (.int m6), (.int v8_2), (.int ((7 : Int32) - v9_3)), (.int (7 : Int32)), (.ref b37)] := Own.iload r at_439 rfl
  replace r : A0 l Z n0 D h86 8 155 443 #[.val (.long dg), .second, .val (.int sh), .val (.int pt), .val (.int ps), .val (.int ij_), .val (.long v6_1), .second, .val (.int v8_2), .val (.int v9_3), .val (.int m4), .val (.int m6), .val (.int v12_9), .val (.int v13_10), .val (.int m11), .val (.int v15_13), .val (.int m14), .val (.int m19), .val (.int m29), .val (.int m31), .val (.int m33), .val (.int m35), .val (.ref b37), .unset, .unset, .unset, .unset] [(.long v6_1), (.int m31), (.int m6), (.int v8_2), (.int ((7 : Int32) - v9_3)), (.int (7 : Int32)), (.ref b37)] := Own.lload r at_441 rfl
  replace r : A0 l Z n0 D h86 8 155 445 #[.val (.long dg), .second, .val (.int sh), .val (.int pt), .val (.int ps), .val (.int ij_), .val (.long v6_1), .second, .val (.int v8_2), .val (.int v9_3), .val (.int m4), .val (.int m6), .val (.int v12_9), .val (.int v13_10), .val (.int m11), .val (.int v15_13), .val (.int m14), .val (.int m19), .val (.int m29), .val (.int m31), .val (.int m33), .val (.int m35), .val (.ref b37), .unset, .unset, .unset, .unset] [(.int m19), (.long v6_1), (.int m31), (.int m6), (.int v8_2), (.int ((7 : Int32) - v9_3)), (.int (7 : Int32)), (.ref b37)] := Own.iload r at_443 rfl
  replace r : A0 l Z n0 D h86 8 155 447 #[.val (.long dg), .second, .val (.int sh), .val (.int pt), .val (.int ps), .val (.int ij_), .val (.long v6_1), .second, .val (.int v8_2), .val (.int v9_3), .val (.int m4), .val (.int m6), .val (.int v12_9), .val (.int v13_10), .val (.int m11), .val (.int v15_13), .val (.int m14), .val (.int m19), .val (.int m29), .val (.int m31), .val (.int m33), .val (.int m35), .val (.ref b37), .unset, .unset, .unset, .unset] [(.int m11), (.int m19), (.long v6_1), (.int m31), (.int m6), (.int v8_2), (.int ((7 : Int32) - v9_3)), (.int (7 : Int32)), (.ref b37)] := Own.iload r at_445 rfl
  replace r : A0 l Z n0 D h86 8 155 449 #[.val (.long dg), .second, .val (.int sh), .val (.int pt), .val (.int ps), .val (.int ij_), .val (.long v6_1), .second, .val (.int v8_2), .val (.int v9_3), .val (.int m4), .val (.int m6), .val (.int v12_9), .val (.int v13_10), .val (.int m11), .val (.int v15_13), .val (.int m14), .val (.int m19), .val (.int m29), .val (.int m31), .val (.int m33), .val (.int m35), .val (.ref b37), .unset, .unset, .unset, .unset] [(.int m29), (.int m11), (.int m19), (.long v6_1), (.int m31), (.int m6), (.int v8_2), (.int ((7 : Int32) - v9_3)), (.int (7 : Int32)), (.ref b37)] := Own.iload r at_447 rfl
  obtain ⟨rv87, h88, hQ89, r⟩ := Own.callS [(.int ((7 : Int32) - v9_3)), (.int v8_2), (.int m6), (.int m31), (.long v6_1), (.int m19), (.int m11), (.int m29)] r at_449 (c1 l Z a0 hw n0 h86 Zs ((7 : Int32) - v9_3) v8_2 m6 m31 v6_1 m19 m11 m29 hA hj) (hw _ (List.mem_of_getElem? (i := 3) rfl)) (hw _ (List.mem_of_getElem? (i := 4) rfl)) (hw _ (List.mem_of_getElem? (i := 5) rfl)) (hw _ (List.mem_of_getElem? (i := 6) rfl)) (lenOf pd_0_0 rfl) rfl rfl (W := 2) (Nat.le_of_eq rfl) rfl (by decide) (by decide) (by decide) (by decide) (by decide)
  obtain ⟨K90, y91, rfl, e_y91⟩ := hQ89
  replace V_b37 := V_b37.keep K90 (by simp)
  replace Zs := Nat.le_trans Zs K90.1
  replace r : A0 l Z n0 D h88 9 174 452 #[.val (.long dg), .second, .val (.int sh), .val (.int pt), .val (.int ps), .val (.int ij_), .val (.long v6_1), .second, .val (.int v8_2), .val (.int v9_3), .val (.int m4), .val (.int m6), .val (.int v12_9), .val (.int v13_10), .val (.int m11), .val (.int v15_13), .val (.int m14), .val (.int m19), .val (.int m29), .val (.int m31), .val (.int m33), .val (.int m35), .val (.ref b37), .unset, .unset, .unset, .unset] [(.int y91), (.int (7 : Int32)), (.ref b37)] := r
  obtain ⟨h93, ⟨W92, V_b37⟩, r⟩ := Own.bastore r at_452 V_b37 (by decide) (Nat.le_of_ble_eq_true rfl) ge_b37
  replace r : A0 l Z n0 D h93 9 174 453 #[.val (.long dg), .second, .val (.int sh), .val (.int pt), .val (.int ps), .val (.int ij_), .val (.long v6_1), .second, .val (.int v8_2), .val (.int v9_3), .val (.int m4), .val (.int m6), .val (.int v12_9), .val (.int v13_10), .val (.int m11), .val (.int v15_13), .val (.int m14), .val (.int m19), .val (.int m29), .val (.int m31), .val (.int m33), .val (.int m35), .val (.ref b37), .unset, .unset, .unset, .unset] [] := r
  replace Zs := Nat.le_trans Zs (Nat.le_of_eq W92.size.symm)
  replace V_b37 : Own.VA Z h93 b37 .byte [(.int (nar .byte y42)), (.int (nar .byte y49)), (.int (nar .byte y56)), (.int (nar .byte y63)), (.int (nar .byte y70)), (.int (nar .byte y77)), (.int (nar .byte y84)), (.int (nar .byte y91)), (.int (0 : Int32)), (.int (0 : Int32)), (.int (0 : Int32)), (.int (0 : Int32)), (.int (0 : Int32)), (.int (0 : Int32)), (.int (0 : Int32)), (.int (0 : Int32)), (.int (0 : Int32)), (.int (0 : Int32)), (.int (0 : Int32)), (.int (0 : Int32)), (.int (0 : Int32)), (.int (0 : Int32))] := V_b37
  replace r : A0 l Z n0 D h93 9 174 455 #[.val (.long dg), .second, .val (.int sh), .val (.int pt), .val (.int ps), .val (.int ij_), .val (.long v6_1), .second, .val (.int v8_2), .val (.int v9_3), .val (.int m4), .val (.int m6), .val (.int v12_9), .val (.int v13_10), .val (.int m11), .val (.int v15_13), .val (.int m14), .val (.int m19), .val (.int m29), .val (.int m31), .val (.int m33), .val (.int m35), .val (.ref b37), .unset, .unset, .unset, .unset] [(.ref b37)] := Own.aload r at_453 rfl rfl
  replace r : A0 l Z n0 D h93 9 174 457 #[.val (.long dg), .second, .val (.int sh), .val (.int pt), .val (.int ps), .val (.int ij_), .val (.long v6_1), .second, .val (.int v8_2), .val (.int v9_3), .val (.int m4), .val (.int m6), .val (.int v12_9), .val (.int v13_10), .val (.int m11), .val (.int v15_13), .val (.int m14), .val (.int m19), .val (.int m29), .val (.int m31), .val (.int m33), .val (.int m35), .val (.ref b37), .unset, .unset, .unset, .unset] [(.int (8 : Int32)), (.ref b37)] := Own.bipush r at_455 rfl
  replace r : A0 l Z n0 D h93 9 174 459 #[.val (.long dg), .second, .val (.int sh), .val (.int pt), .val (.int ps), .val (.int ij_), .val (.long v6_1), .second, .val (.int v8_2), .val (.int v9_3), .val (.int m4), .val (.int m6), .val (.int v12_9), .val (.int v13_10), .val (.int m11), .val (.int v15_13), .val (.int m14), .val (.int m19), .val (.int m29), .val (.int m31), .val (.int m33), .val (.int m35), .val (.ref b37), .unset, .unset, .unset, .unset] [(.int (8 : Int32)), (.int (8 : Int32)), (.ref b37)] := Own.bipush r at_457 rfl
  replace r : A0 l Z n0 D h93 9 174 461 #[.val (.long dg), .second, .val (.int sh), .val (.int pt), .val (.int ps), .val (.int ij_), .val (.long v6_1), .second, .val (.int v8_2), .val (.int v9_3), .val (.int m4), .val (.int m6), .val (.int v12_9), .val (.int v13_10), .val (.int m11), .val (.int v15_13), .val (.int m14), .val (.int m19), .val (.int m29), .val (.int m31), .val (.int m33), .val (.int m35), .val (.ref b37), .unset, .unset, .unset, .unset] [(.int v9_3), (.int (8 : Int32)), (.int (8 : Int32)), (.ref b37)] := Own.iload r at_459 rfl
  replace r : A0 l Z n0 D h93 9 174 462 #[.val (.long dg), .second, .val (.int sh), .val (.int pt), .val (.int ps), .val (.int ij_), .val (.long v6_1), .second, .val (.int v8_2), .val (.int v9_3), .val (.int m4), .val (.int m6), .val (.int v12_9), .val (.int v13_10), .val (.int m11), .val (.int v15_13), .val (.int m14), .val (.int m19), .val (.int m29), .val (.int m31), .val (.int m33), .val (.int m35), .val (.ref b37), .unset, .unset, .unset, .unset] [(.int ((8 : Int32) - v9_3)), (.int (8 : Int32)), (.ref b37)] := Own.isub r at_461
  replace r : A0 l Z n0 D h93 9 174 464 #[.val (.long dg), .second, .val (.int sh), .val (.int pt), .val (.int ps), .val (.int ij_), .val (.long v6_1), .second, .val (.int v8_2), .val (.int v9_3), .val (.int m4), .val (.int m6), .val (.int v12_9), .val (.int v13_10), .val (.int m11), .val (.int v15_13), .val (.int m14), .val (.int m19), .val (.int m29), .val (.int m31), .val (.int m33), .val (.int m35), .val (.ref b37), .unset, .unset, .unset, .unset] [(.int v8_2), (.int ((8 : Int32) - v9_3)), (.int (8 : Int32)), (.ref b37)] := Own.iload r at_462 rfl
  replace r : A0 l Z n0 D h93 9 174 466 #[.val (.long dg), .second, .val (.int sh), .val (.int pt), .val (.int ps), .val (.int ij_), .val (.long v6_1), .second, .val (.int v8_2), .val (.int v9_3), .val (.int m4), .val (.int m6), .val (.int v12_9), .val (.int v13_10), .val (.int m11), .val (.int v15_13), .val (.int m14), .val (.int m19), .val (.int m29), .val (.int m31), .val (.int m33), .val (.int m35), .val (.ref b37), .unset, .unset, .unset, .unset] [(.int m6), (.int v8_2), (.int ((8 : Int32) - v9_3)), (.int (8 : Int32)), (.ref b37)] := Own.iload r at_464 rfl
  replace r : A0 l Z n0 D h93 9 174 468 #[.val (.long dg), .second, .val (.int sh), .val (.int pt), .val (.int ps), .val (.int ij_), .val (.long v6_1), .second, .val (.int v8_2), .val (.int v9_3), .val (.int m4), .val (.int m6), .val (.int v12_9), .val (.int v13_10), .val (.int m11), .val (.int v15_13), .val (.int m14), .val (.int m19), .val (.int m29), .val (.int m31), .val (.int m33), .val (.int m35), .val (.ref b37), .unset, .unset, .unset, .unset] [(.int m31), (.int m6), (.int v8_2), (.int ((8 : Int32) - v9_3)), (.int (8 : Int32)), (.ref b37)] := Own.iload r at_466 rfl
  replace r : A0 l Z n0 D h93 9 174 470 #[.val (.long dg), .second, .val (.int sh), .val (.int pt), .val (.int ps), .val (.int ij_), .val (.long v6_1), .second, .val (.int v8_2), .val (.int v9_3), .val (.int m4), .val (.int m6), .val (.int v12_9), .val (.int v13_10), .val (.int m11), .val (.int v15_13), .val (.int m14), .val (.int m19), .val (.int m29), .val (.int m31), .val (.int m33), .val (.int m35), .val (.ref b37), .unset, .unset, .unset, .unset] [(.long v6_1), (.int m31), (.int m6), (.int v8_2), (.int ((8 : Int32) - v9_3)), (.int (8 : Int32)), (.ref b37)] := Own.lload r at_468 rfl
  replace r : A0 l Z n0 D h93 9 174 472 #[.val (.long dg), .second, .val (.int sh), .val (.int pt), .val (.int ps), .val (.int ij_), .val (.long v6_1), .second, .val (.int v8_2), .val (.int v9_3), .val (.int m4), .val (.int m6), .val (.int v12_9), .val (.int v13_10), .val (.int m11), .val (.int v15_13), .val (.int m14), .val (.int m19), .val (.int m29), .val (.int m31), .val (.int m33), .val (.int m35), .val (.ref b37), .unset, .unset, .unset, .unset] [(.int m19), (.long v6_1), (.int m31), (.int m6), (.int v8_2), (.int ((8 : Int32) - v9_3)), (.int (8 : Int32)), (.ref b37)] := Own.iload r at_470 rfl
  replace r : A0 l Z n0 D h93 9 174 474 #[.val (.long dg), .second, .val (.int sh), .val (.int pt), .val (.int ps), .val (.int ij_), .val (.long v6_1), .second, .val (.int v8_2), .val (.int v9_3), .val (.int m4), .val (.int m6), .val (.int v12_9), .val (.int v13_10), .val (.int m11), .val (.int v15_13), .val (.int m14), .val (.int m19), .val (.int m29), .val (.int m31), .val (.int m33), .val (.int m35), .val (.ref b37), .unset, .unset, .unset, .unset] [(.int m11), (.int m19), (.long v6_1), (.int m31), (.int m6), (.int v8_2), (.int ((8 : Int32) - v9_3)), (.int (8 : Int32)), (.ref b37)] := Own.iload r at_472 rfl
  replace r : A0 l Z n0 D h93 9 174 476 #[.val (.long dg), .second, .val (.int sh), .val (.int pt), .val (.int ps), .val (.int ij_), .val (.long v6_1), .second, .val (.int v8_2), .val (.int v9_3), .val (.int m4), .val (.int m6), .val (.int v12_9), .val (.int v13_10), .val (.int m11), .val (.int v15_13), .val (.int m14), .val (.int m19), .val (.int m29), .val (.int m31), .val (.int m33), .val (.int m35), .val (.ref b37), .unset, .unset, .unset, .unset] [(.int m29), (.int m11), (.int m19), (.long v6_1), (.int m31), (.int m6), (.int v8_2), (.int ((8 : Int32) - v9_3)), (.int (8 : Int32)), (.ref b37)] := Own.iload r at_474 rfl
  obtain ⟨rv94, h95, hQ96, r⟩ := Own.callS [(.int ((8 : Int32) - v9_3)), (.int v8_2), (.int m6), (.int m31), (.long v6_1), (.int m19), (.int m11), (.int m29)] r at_476 (c1 l Z a0 hw n0 h93 Zs ((8 : Int32) - v9_3) v8_2 m6 m31 v6_1 m19 m11 m29 hA hj) (hw _ (List.mem_of_getElem? (i := 3) rfl)) (hw _ (List.mem_of_getElem? (i := 4) rfl)) (hw _ (List.mem_of_getElem? (i := 5) rfl)) (hw _ (List.mem_of_getElem? (i := 6) rfl)) (lenOf pd_0_0 rfl) rfl rfl (W := 2) (Nat.le_of_eq rfl) rfl (by decide) (by decide) (by decide) (by decide) (by decide)
  obtain ⟨K97, y98, rfl, e_y98⟩ := hQ96
  replace V_b37 := V_b37.keep K97 (by simp)
  replace Zs := Nat.le_trans Zs K97.1
  replace r : A0 l Z n0 D h95 10 193 479 #[.val (.long dg), .second, .val (.int sh), .val (.int pt), .val (.int ps), .val (.int ij_), .val (.long v6_1), .second, .val (.int v8_2), .val (.int v9_3), .val (.int m4), .val (.int m6), .val (.int v12_9), .val (.int v13_10), .val (.int m11), .val (.int v15_13), .val (.int m14), .val (.int m19), .val (.int m29), .val (.int m31), .val (.int m33), .val (.int m35), .val (.ref b37), .unset, .unset, .unset, .unset] [(.int y98), (.int (8 : Int32)), (.ref b37)] := r
  obtain ⟨h100, ⟨W99, V_b37⟩, r⟩ := Own.bastore r at_479 V_b37 (by decide) (Nat.le_of_ble_eq_true rfl) ge_b37
  replace r : A0 l Z n0 D h100 10 193 480 #[.val (.long dg), .second, .val (.int sh), .val (.int pt), .val (.int ps), .val (.int ij_), .val (.long v6_1), .second, .val (.int v8_2), .val (.int v9_3), .val (.int m4), .val (.int m6), .val (.int v12_9), .val (.int v13_10), .val (.int m11), .val (.int v15_13), .val (.int m14), .val (.int m19), .val (.int m29), .val (.int m31), .val (.int m33), .val (.int m35), .val (.ref b37), .unset, .unset, .unset, .unset] [] := r
  replace Zs := Nat.le_trans Zs (Nat.le_of_eq W99.size.symm)
  replace V_b37 : Own.VA Z h100 b37 .byte [(.int (nar .byte y42)), (.int (nar .byte y49)), (.int (nar .byte y56)), (.int (nar .byte y63)), (.int (nar .byte y70)), (.int (nar .byte y77)), (.int (nar .byte y84)), (.int (nar .byte y91)), (.int (nar .byte y98)), (.int (0 : Int32)), (.int (0 : Int32)), (.int (0 : Int32)), (.int (0 : Int32)), (.int (0 : Int32)), (.int (0 : Int32)), (.int (0 : Int32)), (.int (0 : Int32)), (.int (0 : Int32)), (.int (0 : Int32)), (.int (0 : Int32)), (.int (0 : Int32)), (.int (0 : Int32))] := V_b37
  replace r : A0 l Z n0 D h100 10 193 482 #[.val (.long dg), .second, .val (.int sh), .val (.int pt), .val (.int ps), .val (.int ij_), .val (.long v6_1), .second, .val (.int v8_2), .val (.int v9_3), .val (.int m4), .val (.int m6), .val (.int v12_9), .val (.int v13_10), .val (.int m11), .val (.int v15_13), .val (.int m14), .val (.int m19), .val (.int m29), .val (.int m31), .val (.int m33), .val (.int m35), .val (.ref b37), .unset, .unset, .unset, .unset] [(.ref b37)] := Own.aload r at_480 rfl rfl
  replace r : A0 l Z n0 D h100 10 193 484 #[.val (.long dg), .second, .val (.int sh), .val (.int pt), .val (.int ps), .val (.int ij_), .val (.long v6_1), .second, .val (.int v8_2), .val (.int v9_3), .val (.int m4), .val (.int m6), .val (.int v12_9), .val (.int v13_10), .val (.int m11), .val (.int v15_13), .val (.int m14), .val (.int m19), .val (.int m29), .val (.int m31), .val (.int m33), .val (.int m35), .val (.ref b37), .unset, .unset, .unset, .unset] [(.int (9 : Int32)), (.ref b37)] := Own.bipush r at_482 rfl
  replace r : A0 l Z n0 D h100 10 193 486 #[.val (.long dg), .second, .val (.int sh), .val (.int pt), .val (.int ps), .val (.int ij_), .val (.long v6_1), .second, .val (.int v8_2), .val (.int v9_3), .val (.int m4), .val (.int m6), .val (.int v12_9), .val (.int v13_10), .val (.int m11), .val (.int v15_13), .val (.int m14), .val (.int m19), .val (.int m29), .val (.int m31), .val (.int m33), .val (.int m35), .val (.ref b37), .unset, .unset, .unset, .unset] [(.int (9 : Int32)), (.int (9 : Int32)), (.ref b37)] := Own.bipush r at_484 rfl
  replace r : A0 l Z n0 D h100 10 193 488 #[.val (.long dg), .second, .val (.int sh), .val (.int pt), .val (.int ps), .val (.int ij_), .val (.long v6_1), .second, .val (.int v8_2), .val (.int v9_3), .val (.int m4), .val (.int m6), .val (.int v12_9), .val (.int v13_10), .val (.int m11), .val (.int v15_13), .val (.int m14), .val (.int m19), .val (.int m29), .val (.int m31), .val (.int m33), .val (.int m35), .val (.ref b37), .unset, .unset, .unset, .unset] [(.int v9_3), (.int (9 : Int32)), (.int (9 : Int32)), (.ref b37)] := Own.iload r at_486 rfl
  replace r : A0 l Z n0 D h100 10 193 489 #[.val (.long dg), .second, .val (.int sh), .val (.int pt), .val (.int ps), .val (.int ij_), .val (.long v6_1), .second, .val (.int v8_2), .val (.int v9_3), .val (.int m4), .val (.int m6), .val (.int v12_9), .val (.int v13_10), .val (.int m11), .val (.int v15_13), .val (.int m14), .val (.int m19), .val (.int m29), .val (.int m31), .val (.int m33), .val (.int m35), .val (.ref b37), .unset, .unset, .unset, .unset] [(.int ((9 : Int32) - v9_3)), (.int (9 : Int32)), (.ref b37)] := Own.isub r at_488
  replace r : A0 l Z n0 D h100 10 193 491 #[.val (.long dg), .second, .val (.int sh), .val (.int pt), .val (.int ps), .val (.int ij_), .val (.long v6_1), .second, .val (.int v8_2), .val (.int v9_3), .val (.int m4), .val (.int m6), .val (.int v12_9), .val (.int v13_10), .val (.int m11), .val (.int v15_13), .val (.int m14), .val (.int m19), .val (.int m29), .val (.int m31), .val (.int m33), .val (.int m35), .val (.ref b37), .unset, .unset, .unset, .unset] [(.int v8_2), (.int ((9 : Int32) - v9_3)), (.int (9 : Int32)), (.ref b37)] := Own.iload r at_489 rfl
  replace r : A0 l Z n0 D h100 10 193 493 #[.val (.long dg), .second, .val (.int sh), .val (.int pt), .val (.int ps), .val (.int ij_), .val (.long v6_1), .second, .val (.int v8_2), .val (.int v9_3), .val (.int m4), .val (.int m6), .val (.int v12_9), .val (.int v13_10), .val (.int m11), .val (.int v15_13), .val (.int m14), .val (.int m19), .val (.int m29), .val (.int m31), .val (.int m33), .val (.int m35), .val (.ref b37), .unset, .unset, .unset, .unset] [(.int m6), (.int v8_2), (.int ((9 : Int32) - v9_3)), (.int (9 : Int32)), (.ref b37)] := Own.iload r at_491 rfl
  replace r : A0 l Z n0 D h100 10 193 495 #[.val (.long dg), .second, .val (.int sh), .val (.int pt), .val (.int ps), .val (.int ij_), .val (.long v6_1), .second, .val (.int v8_2), .val (.int v9_3), .val (.int m4), .val (.int m6), .val (.int v12_9), .val (.int v13_10), .val (.int m11), .val (.int v15_13), .val (.int m14), .val (.int m19), .val (.int m29), .val (.int m31), .val (.int m33), .val (.int m35), .val (.ref b37), .unset, .unset, .unset, .unset] [(.int m31), (.int m6), (.int v8_2), (.int ((9 : Int32) - v9_3)), (.int (9 : Int32)), (.ref b37)] := Own.iload r at_493 rfl
  replace r : A0 l Z n0 D h100 10 193 497 #[.val (.long dg), .second, .val (.int sh), .val (.int pt), .val (.int ps), .val (.int ij_), .val (.long v6_1), .second, .val (.int v8_2), .val (.int v9_3), .val (.int m4), .val (.int m6), .val (.int v12_9), .val (.int v13_10), .val (.int m11), .val (.int v15_13), .val (.int m14), .val (.int m19), .val (.int m29), .val (.int m31), .val (.int m33), .val (.int m35), .val (.ref b37), .unset, .unset, .unset, .unset] [(.long v6_1), (.int m31), (.int m6), (.int v8_2), (.int ((9 : Int32) - v9_3)), (.int (9 : Int32)), (.ref b37)] := Own.lload r at_495 rfl
  replace r : A0 l Z n0 D h100 10 193 499 #[.val (.long dg), .second, .val (.int sh), .val (.int pt), .val (.int ps), .val (.int ij_), .val (.long v6_1), .second, .val (.int v8_2), .val (.int v9_3), .val (.int m4), .val (.int m6), .val (.int v12_9), .val (.int v13_10), .val (.int m11), .val (.int v15_13), .val (.int m14), .val (.int m19), .val (.int m29), .val (.int m31), .val (.int m33), .val (.int m35), .val (.ref b37), .unset, .unset, .unset, .unset] [(.int m19), (.long v6_1), (.int m31), (.int m6), (.int v8_2), (.int ((9 : Int32) - v9_3)), (.int (9 : Int32)), (.ref b37)] := Own.iload r at_497 rfl
  replace r : A0 l Z n0 D h100 10 193 501 #[.val (.long dg), .second, .val (.int sh), .val (.int pt), .val (.int ps), .val (.int ij_), .val (.long v6_1), .second, .val (.int v8_2), .val (.int v9_3), .val (.int m4), .val (.int m6), .val (.int v12_9), .val (.int v13_10), .val (.int m11), .val (.int v15_13), .val (.int m14), .val (.int m19), .val (.int m29), .val (.int m31), .val (.int m33), .val (.int m35), .val (.ref b37), .unset, .unset, .unset, .unset] [(.int m11), (.int m19), (.long v6_1), (.int m31), (.int m6), (.int v8_2), (.int ((9 : Int32) - v9_3)), (.int (9 : Int32)), (.ref b37)] := Own.iload r at_499 rfl
  replace r : A0 l Z n0 D h100 10 193 503 #[.val (.long dg), .second, .val (.int sh), .val (.int pt), .val (.int ps), .val (.int ij_), .val (.long v6_1), .second, .val (.int v8_2), .val (.int v9_3), .val (.int m4), .val (.int m6), .val (.int v12_9), .val (.int v13_10), .val (.int m11), .val (.int v15_13), .val (.int m14), .val (.int m19), .val (.int m29), .val (.int m31), .val (.int m33), .val (.int m35), .val (.ref b37), .unset, .unset, .unset, .unset] [(.int m29), (.int m11), (.int m19), (.long v6_1), (.int m31), (.int m6), (.int v8_2), (.int ((9 : Int32) - v9_3)), (.int (9 : Int32)), (.ref b37)] := Own.iload r at_501 rfl
  obtain ⟨rv101, h102, hQ103, r⟩ := Own.callS [(.int ((9 : Int32) - v9_3)), (.int v8_2), (.int m6), (.int m31), (.long v6_1), (.int m19), (.int m11), (.int m29)] r at_503 (c1 l Z a0 hw n0 h100 Zs ((9 : Int32) - v9_3) v8_2 m6 m31 v6_1 m19 m11 m29 hA hj) (hw _ (List.mem_of_getElem? (i := 3) rfl)) (hw _ (List.mem_of_getElem? (i := 4) rfl)) (hw _ (List.mem_of_getElem? (i := 5) rfl)) (hw _ (List.mem_of_getElem? (i := 6) rfl)) (lenOf pd_0_0 rfl) rfl rfl (W := 2) (Nat.le_of_eq rfl) rfl (by decide) (by decide) (by decide) (by decide) (by decide)
  obtain ⟨K104, y105, rfl, e_y105⟩ := hQ103
  replace V_b37 := V_b37.keep K104 (by simp)
  replace Zs := Nat.le_trans Zs K104.1
  replace r : A0 l Z n0 D h102 11 212 506 #[.val (.long dg), .second, .val (.int sh), .val (.int pt), .val (.int ps), .val (.int ij_), .val (.long v6_1), .second, .val (.int v8_2), .val (.int v9_3), .val (.int m4), .val (.int m6), .val (.int v12_9), .val (.int v13_10), .val (.int m11), .val (.int v15_13), .val (.int m14), .val (.int m19), .val (.int m29), .val (.int m31), .val (.int m33), .val (.int m35), .val (.ref b37), .unset, .unset, .unset, .unset] [(.int y105), (.int (9 : Int32)), (.ref b37)] := r
  obtain ⟨h107, ⟨W106, V_b37⟩, r⟩ := Own.bastore r at_506 V_b37 (by decide) (Nat.le_of_ble_eq_true rfl) ge_b37
  replace r : A0 l Z n0 D h107 11 212 507 #[.val (.long dg), .second, .val (.int sh), .val (.int pt), .val (.int ps), .val (.int ij_), .val (.long v6_1), .second, .val (.int v8_2), .val (.int v9_3), .val (.int m4), .val (.int m6), .val (.int v12_9), .val (.int v13_10), .val (.int m11), .val (.int v15_13), .val (.int m14), .val (.int m19), .val (.int m29), .val (.int m31), .val (.int m33), .val (.int m35), .val (.ref b37), .unset, .unset, .unset, .unset] [] := r
  replace Zs := Nat.le_trans Zs (Nat.le_of_eq W106.size.symm)
  replace V_b37 : Own.VA Z h107 b37 .byte [(.int (nar .byte y42)), (.int (nar .byte y49)), (.int (nar .byte y56)), (.int (nar .byte y63)), (.int (nar .byte y70)), (.int (nar .byte y77)), (.int (nar .byte y84)), (.int (nar .byte y91)), (.int (nar .byte y98)), (.int (nar .byte y105)), (.int (0 : Int32)), (.int (0 : Int32)), (.int (0 : Int32)), (.int (0 : Int32)), (.int (0 : Int32)), (.int (0 : Int32)), (.int (0 : Int32)), (.int (0 : Int32)), (.int (0 : Int32)), (.int (0 : Int32)), (.int (0 : Int32)), (.int (0 : Int32))] := V_b37
  replace r : A0 l Z n0 D h107 11 212 509 #[.val (.long dg), .second, .val (.int sh), .val (.int pt), .val (.int ps), .val (.int ij_), .val (.long v6_1), .second, .val (.int v8_2), .val (.int v9_3), .val (.int m4), .val (.int m6), .val (.int v12_9), .val (.int v13_10), .val (.int m11), .val (.int v15_13), .val (.int m14), .val (.int m19), .val (.int m29), .val (.int m31), .val (.int m33), .val (.int m35), .val (.ref b37), .unset, .unset, .unset, .unset] [(.ref b37)] := Own.aload r at_507 rfl rfl
  replace r : A0 l Z n0 D h107 11 212 511 #[.val (.long dg), .second, .val (.int sh), .val (.int pt), .val (.int ps), .val (.int ij_), .val (.long v6_1), .second, .val (.int v8_2), .val (.int v9_3), .val (.int m4), .val (.int m6), .val (.int v12_9), .val (.int v13_10), .val (.int m11), .val (.int v15_13), .val (.int m14), .val (.int m19), .val (.int m29), .val (.int m31), .val (.int m33), .val (.int m35), .val (.ref b37), .unset, .unset, .unset, .unset] [(.int (10 : Int32)), (.ref b37)] := Own.bipush r at_509 rfl
  replace r : A0 l Z n0 D h107 11 212 513 #[.val (.long dg), .second, .val (.int sh), .val (.int pt), .val (.int ps), .val (.int ij_), .val (.long v6_1), .second, .val (.int v8_2), .val (.int v9_3), .val (.int m4), .val (.int m6), .val (.int v12_9), .val (.int v13_10), .val (.int m11), .val (.int v15_13), .val (.int m14), .val (.int m19), .val (.int m29), .val (.int m31), .val (.int m33), .val (.int m35), .val (.ref b37), .unset, .unset, .unset, .unset] [(.int (10 : Int32)), (.int (10 : Int32)), (.ref b37)] := Own.bipush r at_511 rfl
  replace r : A0 l Z n0 D h107 11 212 515 #[.val (.long dg), .second, .val (.int sh), .val (.int pt), .val (.int ps), .val (.int ij_), .val (.long v6_1), .second, .val (.int v8_2), .val (.int v9_3), .val (.int m4), .val (.int m6), .val (.int v12_9), .val (.int v13_10), .val (.int m11), .val (.int v15_13), .val (.int m14), .val (.int m19), .val (.int m29), .val (.int m31), .val (.int m33), .val (.int m35), .val (.ref b37), .unset, .unset, .unset, .unset] [(.int v9_3), (.int (10 : Int32)), (.int (10 : Int32)), (.ref b37)] := Own.iload r at_513 rfl
  replace r : A0 l Z n0 D h107 11 212 516 #[.val (.long dg), .second, .val (.int sh), .val (.int pt), .val (.int ps), .val (.int ij_), .val (.long v6_1), .second, .val (.int v8_2), .val (.int v9_3), .val (.int m4), .val (.int m6), .val (.int v12_9), .val (.int v13_10), .val (.int m11), .val (.int v15_13), .val (.int m14), .val (.int m19), .val (.int m29), .val (.int m31), .val (.int m33), .val (.int m35), .val (.ref b37), .unset, .unset, .unset, .unset] [(.int ((10 : Int32) - v9_3)), (.int (10 : Int32)), (.ref b37)] := Own.isub r at_515
  replace r : A0 l Z n0 D h107 11 212 518 #[.val (.long dg), .second, .val (.int sh), .val (.int pt), .val (.int ps), .val (.int ij_), .val (.long v6_1), .second, .val (.int v8_2), .val (.int v9_3), .val (.int m4), .val (.int m6), .val (.int v12_9), .val (.int v13_10), .val (.int m11), .val (.int v15_13), .val (.int m14), .val (.int m19), .val (.int m29), .val (.int m31), .val (.int m33), .val (.int m35), .val (.ref b37), .unset, .unset, .unset, .unset] [(.int v8_2), (.int ((10 : Int32) - v9_3)), (.int (10 : Int32)), (.ref b37)] := Own.iload r at_516 rfl
  replace r : A0 l Z n0 D h107 11 212 520 #[.val (.long dg), .second, .val (.int sh), .val (.int pt), .val (.int ps), .val (.int ij_), .val (.long v6_1), .second, .val (.int v8_2), .val (.int v9_3), .val (.int m4), .val (.int m6), .val (.int v12_9), .val (.int v13_10), .val (.int m11), .val (.int v15_13), .val (.int m14), .val (.int m19), .val (.int m29), .val (.int m31), .val (.int m33), .val (.int m35), .val (.ref b37), .unset, .unset, .unset, .unset] [(.int m6), (.int v8_2), (.int ((10 : Int32) - v9_3)), (.int (10 : Int32)), (.ref b37)] := Own.iload r at_518 rfl
  replace r : A0 l Z n0 D h107 11 212 522 #[.val (.long dg), .second, .val (.int sh), .val (.int pt), .val (.int ps), .val (.int ij_), .val (.long v6_1), .second, .val (.int v8_2), .val (.int v9_3), .val (.int m4), .val (.int m6), .val (.int v12_9), .val (.int v13_10), .val (.int m11), .val (.int v15_13), .val (.int m14), .val (.int m19), .val (.int m29), .val (.int m31), .val (.int m33), .val (.int m35), .val (.ref b37), .unset, .unset, .unset, .unset] [(.int m31), (.int m6), (.int v8_2), (.int ((10 : Int32) - v9_3)), (.int (10 : Int32)), (.ref b37)] := Own.iload r at_520 rfl
  replace r : A0 l Z n0 D h107 11 212 524 #[.val (.long dg), .second, .val (.int sh), .val (.int pt), .val (.int ps), .val (.int ij_), .val (.long v6_1), .second, .val (.int v8_2), .val (.int v9_3), .val (.int m4), .val (.int m6), .val (.int v12_9), .val (.int v13_10), .val (.int m11), .val (.int v15_13), .val (.int m14), .val (.int m19), .val (.int m29), .val (.int m31), .val (.int m33), .val (.int m35), .val (.ref b37), .unset, .unset, .unset, .unset] [(.long v6_1), (.int m31), (.int m6), (.int v8_2), (.int ((10 : Int32) - v9_3)), (.int (10 : Int32)), (.ref b37)] := Own.lload r at_522 rfl
  replace r : A0 l Z n0 D h107 11 212 526 #[.val (.long dg), .second, .val (.int sh), .val (.int pt), .val (.int ps), .val (.int ij_), .val (.long v6_1), .second, .val (.int v8_2), .val (.int v9_3), .val (.int m4), .val (.int m6), .val (.int v12_9), .val (.int v13_10), .val (.int m11), .val (.int v15_13), .val (.int m14), .val (.int m19), .val (.int m29), .val (.int m31), .val (.int m33), .val (.int m35), .val (.ref b37), .unset, .unset, .unset, .unset] [(.int m19), (.long v6_1), (.int m31), (.int m6), (.int v8_2), (.int ((10 : Int32) - v9_3)), (.int (10 : Int32)), (.ref b37)] := Own.iload r at_524 rfl
  replace r : A0 l Z n0 D h107 11 212 528 #[.val (.long dg), .second, .val (.int sh), .val (.int pt), .val (.int ps), .val (.int ij_), .val (.long v6_1), .second, .val (.int v8_2), .val (.int v9_3), .val (.int m4), .val (.int m6), .val (.int v12_9), .val (.int v13_10), .val (.int m11), .val (.int v15_13), .val (.int m14), .val (.int m19), .val (.int m29), .val (.int m31), .val (.int m33), .val (.int m35), .val (.ref b37), .unset, .unset, .unset, .unset] [(.int m11), (.int m19), (.long v6_1), (.int m31), (.int m6), (.int v8_2), (.int ((10 : Int32) - v9_3)), (.int (10 : Int32)), (.ref b37)] := Own.iload r at_526 rfl
  replace r : A0 l Z n0 D h107 11 212 530 #[.val (.long dg), .second, .val (.int sh), .val (.int pt), .val (.int ps), .val (.int ij_), .val (.long v6_1), .second, .val (.int v8_2), .val (.int v9_3), .val (.int m4), .val (.int m6), .val (.int v12_9), .val (.int v13_10), .val (.int m11), .val (.int v15_13), .val (.int m14), .val (.int m19), .val (.int m29), .val (.int m31), .val (.int m33), .val (.int m35), .val (.ref b37), .unset, .unset, .unset, .unset] [(.int m29), (.int m11), (.int m19), (.long v6_1), (.int m31), (.int m6), (.int v8_2), (.int ((10 : Int32) - v9_3)), (.int (10 : Int32)), (.ref b37)] := Own.iload r at_528 rfl
  obtain ⟨rv108, h109, hQ110, r⟩ := Own.callS [(.int ((10 : Int32) - v9_3)), (.int v8_2), (.int m6), (.int m31), (.long v6_1), (.int m19), (.int m11), (.int m29)] r at_530 (c1 l Z a0 hw n0 h107 Zs ((10 : Int32) - v9_3) v8_2 m6 m31 v6_1 m19 m11 m29 hA hj) (hw _ (List.mem_of_getElem? (i := 3) rfl)) (hw _ (List.mem_of_getElem? (i := 4) rfl)) (hw _ (List.mem_of_getElem? (i := 5) rfl)) (hw _ (List.mem_of_getElem? (i := 6) rfl)) (lenOf pd_0_0 rfl) rfl rfl (W := 2) (Nat.le_of_eq rfl) rfl (by decide) (by decide) (by decide) (by decide) (by decide)
  obtain ⟨K111, y112, rfl, e_y112⟩ := hQ110
  replace V_b37 := V_b37.keep K111 (by simp)
  replace Zs := Nat.le_trans Zs K111.1
  replace r : A0 l Z n0 D h109 12 231 533 #[.val (.long dg), .second, .val (.int sh), .val (.int pt), .val (.int ps), .val (.int ij_), .val (.long v6_1), .second, .val (.int v8_2), .val (.int v9_3), .val (.int m4), .val (.int m6), .val (.int v12_9), .val (.int v13_10), .val (.int m11), .val (.int v15_13), .val (.int m14), .val (.int m19), .val (.int m29), .val (.int m31), .val (.int m33), .val (.int m35), .val (.ref b37), .unset, .unset, .unset, .unset] [(.int y112), (.int (10 : Int32)), (.ref b37)] := r
  obtain ⟨h114, ⟨W113, V_b37⟩, r⟩ := Own.bastore r at_533 V_b37 (by decide) (Nat.le_of_ble_eq_true rfl) ge_b37
  replace r : A0 l Z n0 D h114 12 231 534 #[.val (.long dg), .second, .val (.int sh), .val (.int pt), .val (.int ps), .val (.int ij_), .val (.long v6_1), .second, .val (.int v8_2), .val (.int v9_3), .val (.int m4), .val (.int m6), .val (.int v12_9), .val (.int v13_10), .val (.int m11), .val (.int v15_13), .val (.int m14), .val (.int m19), .val (.int m29), .val (.int m31), .val (.int m33), .val (.int m35), .val (.ref b37), .unset, .unset, .unset, .unset] [] := r
  replace Zs := Nat.le_trans Zs (Nat.le_of_eq W113.size.symm)
  replace V_b37 : Own.VA Z h114 b37 .byte [(.int (nar .byte y42)), (.int (nar .byte y49)), (.int (nar .byte y56)), (.int (nar .byte y63)), (.int (nar .byte y70)), (.int (nar .byte y77)), (.int (nar .byte y84)), (.int (nar .byte y91)), (.int (nar .byte y98)), (.int (nar .byte y105)), (.int (nar .byte y112)), (.int (0 : Int32)), (.int (0 : Int32)), (.int (0 : Int32)), (.int (0 : Int32)), (.int (0 : Int32)), (.int (0 : Int32)), (.int (0 : Int32)), (.int (0 : Int32)), (.int (0 : Int32)), (.int (0 : Int32)), (.int (0 : Int32))] := V_b37
  replace r : A0 l Z n0 D h114 12 231 536 #[.val (.long dg), .second, .val (.int sh), .val (.int pt), .val (.int ps), .val (.int ij_), .val (.long v6_1), .second, .val (.int v8_2), .val (.int v9_3), .val (.int m4), .val (.int m6), .val (.int v12_9), .val (.int v13_10), .val (.int m11), .val (.int v15_13), .val (.int m14), .val (.int m19), .val (.int m29), .val (.int m31), .val (.int m33), .val (.int m35), .val (.ref b37), .unset, .unset, .unset, .unset] [(.ref b37)] := Own.aload r at_534 rfl rfl
  replace r : A0 l Z n0 D h114 12 231 538 #[.val (.long dg), .second, .val (.int sh), .val (.int pt), .val (.int ps), .val (.int ij_), .val (.long v6_1), .second, .val (.int v8_2), .val (.int v9_3), .val (.int m4), .val (.int m6), .val (.int v12_9), .val (.int v13_10), .val (.int m11), .val (.int v15_13), .val (.int m14), .val (.int m19), .val (.int m29), .val (.int m31), .val (.int m33), .val (.int m35), .val (.ref b37), .unset, .unset, .unset, .unset] [(.int (11 : Int32)), (.ref b37)] := Own.bipush r at_536 rfl
  replace r : A0 l Z n0 D h114 12 231 540 #[.val (.long dg), .second, .val (.int sh), .val (.int pt), .val (.int ps), .val (.int ij_), .val (.long v6_1), .second, .val (.int v8_2), .val (.int v9_3), .val (.int m4), .val (.int m6), .val (.int v12_9), .val (.int v13_10), .val (.int m11), .val (.int v15_13), .val (.int m14), .val (.int m19), .val (.int m29), .val (.int m31), .val (.int m33), .val (.int m35), .val (.ref b37), .unset, .unset, .unset, .unset] [(.int (11 : Int32)), (.int (11 : Int32)), (.ref b37)] := Own.bipush r at_538 rfl
  replace r : A0 l Z n0 D h114 12 231 542 #[.val (.long dg), .second, .val (.int sh), .val (.int pt), .val (.int ps), .val (.int ij_), .val (.long v6_1), .second, .val (.int v8_2), .val (.int v9_3), .val (.int m4), .val (.int m6), .val (.int v12_9), .val (.int v13_10), .val (.int m11), .val (.int v15_13), .val (.int m14), .val (.int m19), .val (.int m29), .val (.int m31), .val (.int m33), .val (.int m35), .val (.ref b37), .unset, .unset, .unset, .unset] [(.int v9_3), (.int (11 : Int32)), (.int (11 : Int32)), (.ref b37)] := Own.iload r at_540 rfl
  replace r : A0 l Z n0 D h114 12 231 543 #[.val (.long dg), .second, .val (.int sh), .val (.int pt), .val (.int ps), .val (.int ij_), .val (.long v6_1), .second, .val (.int v8_2), .val (.int v9_3), .val (.int m4), .val (.int m6), .val (.int v12_9), .val (.int v13_10), .val (.int m11), .val (.int v15_13), .val (.int m14), .val (.int m19), .val (.int m29), .val (.int m31), .val (.int m33), .val (.int m35), .val (.ref b37), .unset, .unset, .unset, .unset] [(.int ((11 : Int32) - v9_3)), (.int (11 : Int32)), (.ref b37)] := Own.isub r at_542
  replace r : A0 l Z n0 D h114 12 231 545 #[.val (.long dg), .second, .val (.int sh), .val (.int pt), .val (.int ps), .val (.int ij_), .val (.long v6_1), .second, .val (.int v8_2), .val (.int v9_3), .val (.int m4), .val (.int m6), .val (.int v12_9), .val (.int v13_10), .val (.int m11), .val (.int v15_13), .val (.int m14), .val (.int m19), .val (.int m29), .val (.int m31), .val (.int m33), .val (.int m35), .val (.ref b37), .unset, .unset, .unset, .unset] [(.int v8_2), (.int ((11 : Int32) - v9_3)), (.int (11 : Int32)), (.ref b37)] := Own.iload r at_543 rfl
  replace r : A0 l Z n0 D h114 12 231 547 #[.val (.long dg), .second, .val (.int sh), .val (.int pt), .val (.int ps), .val (.int ij_), .val (.long v6_1), .second, .val (.int v8_2), .val (.int v9_3), .val (.int m4), .val (.int m6), .val (.int v12_9), .val (.int v13_10), .val (.int m11), .val (.int v15_13), .val (.int m14), .val (.int m19), .val (.int m29), .val (.int m31), .val (.int m33), .val (.int m35), .val (.ref b37), .unset, .unset, .unset, .unset] [(.int m6), (.int v8_2), (.int ((11 : Int32) - v9_3)), (.int (11 : Int32)), (.ref b37)] := Own.iload r at_545 rfl
  replace r : A0 l Z n0 D h114 12 231 549 #[.val (.long dg), .second, .val (.int sh), .val (.int pt), .val (.int ps), .val (.int ij_), .val (.long v6_1), .second, .val (.int v8_2), .val (.int v9_3), .val (.int m4), .val (.int m6), .val (.int v12_9), .val (.int v13_10), .val (.int m11), .val (.int v15_13), .val (.int m14), .val (.int m19), .val (.int m29), .val (.int m31), .val (.int m33), .val (.int m35), .val (.ref b37), .unset, .unset, .unset, .unset] [(.int m31), (.int m6), (.int v8_2), (.int ((11 : Int32) - v9_3)), (.int (11 : Int32)), (.ref b37)] := Own.iload r at_547 rfl
  replace r : A0 l Z n0 D h114 12 231 551 #[.val (.long dg), .second, .val (.int sh), .val (.int pt), .val (.int ps), .val (.int ij_), .val (.long v6_1), .second, .val (.int v8_2), .val (.int v9_3), .val (.int m4), .val (.int m6), .val (.int v12_9), .val (.int v13_10), .val (.int m11), .val (.int v15_13), .val (.int m14), .val (.int m19), .val (.int m29), .val (.int m31), .val (.int m33), .val (.int m35), .val (.ref b37), .unset, .unset, .unset, .unset] [(.long v6_1), (.int m31), (.int m6), (.int v8_2), (.int ((11 : Int32) - v9_3)), (.int (11 : Int32)), (.ref b37)] := Own.lload r at_549 rfl
  replace r : A0 l Z n0 D h114 12 231 553 #[.val (.long dg), .second, .val (.int sh), .val (.int pt), .val (.int ps), .val (.int ij_), .val (.long v6_1), .second, .val (.int v8_2), .val (.int v9_3), .val (.int m4), .val (.int m6), .val (.int v12_9), .val (.int v13_10), .val (.int m11), .val (.int v15_13), .val (.int m14), .val (.int m19), .val (.int m29), .val (.int m31), .val (.int m33), .val (.int m35), .val (.ref b37), .unset, .unset, .unset, .unset] [(.int m19), (.long v6_1), (.int m31), (.int m6), (.int v8_2), (.int ((11 : Int32) - v9_3)), (.int (11 : Int32)), (.ref b37)] := Own.iload r at_551 rfl
  replace r : A0 l Z n0 D h114 12 231 555 #[.val (.long dg), .second, .val (.int sh), .val (.int pt), .val (.int ps), .val (.int ij_), .val (.long v6_1), .second, .val (.int v8_2), .val (.int v9_3), .val (.int m4), .val (.int m6), .val (.int v12_9), .val (.int v13_10), .val (.int m11), .val (.int v15_13), .val (.int m14), .val (.int m19), .val (.int m29), .val (.int m31), .val (.int m33), .val (.int m35), .val (.ref b37), .unset, .unset, .unset, .unset] [(.int m11), (.int m19), (.long v6_1), (.int m31), (.int m6), (.int v8_2), (.int ((11 : Int32) - v9_3)), (.int (11 : Int32)), (.ref b37)] := Own.iload r at_553 rfl
  replace r : A0 l Z n0 D h114 12 231 557 #[.val (.long dg), .second, .val (.int sh), .val (.int pt), .val (.int ps), .val (.int ij_), .val (.long v6_1), .second, .val (.int v8_2), .val (.int v9_3), .val (.int m4), .val (.int m6), .val (.int v12_9), .val (.int v13_10), .val (.int m11), .val (.int v15_13), .val (.int m14), .val (.int m19), .val (.int m29), .val (.int m31), .val (.int m33), .val (.int m35), .val (.ref b37), .unset, .unset, .unset, .unset] [(.int m29), (.int m11), (.int m19), (.long v6_1), (.int m31), (.int m6), (.int v8_2), (.int ((11 : Int32) - v9_3)), (.int (11 : Int32)), (.ref b37)] := Own.iload r at_555 rfl
  obtain ⟨rv115, h116, hQ117, r⟩ := Own.callS [(.int ((11 : Int32) - v9_3)), (.int v8_2), (.int m6), (.int m31), (.long v6_1), (.int m19), (.int m11), (.int m29)] r at_557 (c1 l Z a0 hw n0 h114 Zs ((11 : Int32) - v9_3) v8_2 m6 m31 v6_1 m19 m11 m29 hA hj) (hw _ (List.mem_of_getElem? (i := 3) rfl)) (hw _ (List.mem_of_getElem? (i := 4) rfl)) (hw _ (List.mem_of_getElem? (i := 5) rfl)) (hw _ (List.mem_of_getElem? (i := 6) rfl)) (lenOf pd_0_0 rfl) rfl rfl (W := 2) (Nat.le_of_eq rfl) rfl (by decide) (by decide) (by decide) (by decide) (by decide)
  obtain ⟨K118, y119, rfl, e_y119⟩ := hQ117
  replace V_b37 := V_b37.keep K118 (by simp)
  replace Zs := Nat.le_trans Zs K118.1
  replace r : A0 l Z n0 D h116 13 250 560 #[.val (.long dg), .second, .val (.int sh), .val (.int pt), .val (.int ps), .val (.int ij_), .val (.long v6_1), .second, .val (.int v8_2), .val (.int v9_3), .val (.int m4), .val (.int m6), .val (.int v12_9), .val (.int v13_10), .val (.int m11), .val (.int v15_13), .val (.int m14), .val (.int m19), .val (.int m29), .val (.int m31), .val (.int m33), .val (.int m35), .val (.ref b37), .unset, .unset, .unset, .unset] [(.int y119), (.int (11 : Int32)), (.ref b37)] := r
  obtain ⟨h121, ⟨W120, V_b37⟩, r⟩ := Own.bastore r at_560 V_b37 (by decide) (Nat.le_of_ble_eq_true rfl) ge_b37
  replace r : A0 l Z n0 D h121 13 250 561 #[.val (.long dg), .second, .val (.int sh), .val (.int pt), .val (.int ps), .val (.int ij_), .val (.long v6_1), .second, .val (.int v8_2), .val (.int v9_3), .val (.int m4), .val (.int m6), .val (.int v12_9), .val (.int v13_10), .val (.int m11), .val (.int v15_13), .val (.int m14), .val (.int m19), .val (.int m29), .val (.int m31), .val (.int m33), .val (.int m35), .val (.ref b37), .unset, .unset, .unset, .unset] [] := r
  replace Zs := Nat.le_trans Zs (Nat.le_of_eq W120.size.symm)
  replace V_b37 : Own.VA Z h121 b37 .byte [(.int (nar .byte y42)), (.int (nar .byte y49)), (.int (nar .byte y56)), (.int (nar .byte y63)), (.int (nar .byte y70)), (.int (nar .byte y77)), (.int (nar .byte y84)), (.int (nar .byte y91)), (.int (nar .byte y98)), (.int (nar .byte y105)), (.int (nar .byte y112)), (.int (nar .byte y119)), (.int (0 : Int32)), (.int (0 : Int32)), (.int (0 : Int32)), (.int (0 : Int32)), (.int (0 : Int32)), (.int (0 : Int32)), (.int (0 : Int32)), (.int (0 : Int32)), (.int (0 : Int32)), (.int (0 : Int32))] := V_b37
  replace r : A0 l Z n0 D h121 13 250 563 #[.val (.long dg), .second, .val (.int sh), .val (.int pt), .val (.int ps), .val (.int ij_), .val (.long v6_1), .second, .val (.int v8_2), .val (.int v9_3), .val (.int m4), .val (.int m6), .val (.int v12_9), .val (.int v13_10), .val (.int m11), .val (.int v15_13), .val (.int m14), .val (.int m19), .val (.int m29), .val (.int m31), .val (.int m33), .val (.int m35), .val (.ref b37), .unset, .unset, .unset, .unset] [(.ref b37)] := Own.aload r at_561 rfl rfl
  replace r : A0 l Z n0 D h121 13 250 565 #[.val (.long dg), .second, .val (.int sh), .val (.int pt), .val (.int ps), .val (.int ij_), .val (.long v6_1), .second, .val (.int v8_2), .val (.int v9_3), .val (.int m4), .val (.int m6), .val (.int v12_9), .val (.int v13_10), .val (.int m11), .val (.int v15_13), .val (.int m14), .val (.int m19), .val (.int m29), .val (.int m31), .val (.int m33), .val (.int m35), .val (.ref b37), .unset, .unset, .unset, .unset] [(.int (12 : Int32)), (.ref b37)] := Own.bipush r at_563 rfl
  replace r : A0 l Z n0 D h121 13 250 567 #[.val (.long dg), .second, .val (.int sh), .val (.int pt), .val (.int ps), .val (.int ij_), .val (.long v6_1), .second, .val (.int v8_2), .val (.int v9_3), .val (.int m4), .val (.int m6), .val (.int v12_9), .val (.int v13_10), .val (.int m11), .val (.int v15_13), .val (.int m14), .val (.int m19), .val (.int m29), .val (.int m31), .val (.int m33), .val (.int m35), .val (.ref b37), .unset, .unset, .unset, .unset] [(.int (12 : Int32)), (.int (12 : Int32)), (.ref b37)] := Own.bipush r at_565 rfl
  replace r : A0 l Z n0 D h121 13 250 569 #[.val (.long dg), .second, .val (.int sh), .val (.int pt), .val (.int ps), .val (.int ij_), .val (.long v6_1), .second, .val (.int v8_2), .val (.int v9_3), .val (.int m4), .val (.int m6), .val (.int v12_9), .val (.int v13_10), .val (.int m11), .val (.int v15_13), .val (.int m14), .val (.int m19), .val (.int m29), .val (.int m31), .val (.int m33), .val (.int m35), .val (.ref b37), .unset, .unset, .unset, .unset] [(.int v9_3), (.int (12 : Int32)), (.int (12 : Int32)), (.ref b37)] := Own.iload r at_567 rfl
  replace r : A0 l Z n0 D h121 13 250 570 #[.val (.long dg), .second, .val (.int sh), .val (.int pt), .val (.int ps), .val (.int ij_), .val (.long v6_1), .second, .val (.int v8_2), .val (.int v9_3), .val (.int m4), .val (.int m6), .val (.int v12_9), .val (.int v13_10), .val (.int m11), .val (.int v15_13), .val (.int m14), .val (.int m19), .val (.int m29), .val (.int m31), .val (.int m33), .val (.int m35), .val (.ref b37), .unset, .unset, .unset, .unset] [(.int ((12 : Int32) - v9_3)), (.int (12 : Int32)), (.ref b37)] := Own.isub r at_569
  replace r : A0 l Z n0 D h121 13 250 572 #[.val (.long dg), .second, .val (.int sh), .val (.int pt), .val (.int ps), .val (.int ij_), .val (.long v6_1), .second, .val (.int v8_2), .val (.int v9_3), .val (.int m4), .val (.int m6), .val (.int v12_9), .val (.int v13_10), .val (.int m11), .val (.int v15_13), .val (.int m14), .val (.int m19), .val (.int m29), .val (.int m31), .val (.int m33), .val (.int m35), .val (.ref b37), .unset, .unset, .unset, .unset] [(.int v8_2), (.int ((12 : Int32) - v9_3)), (.int (12 : Int32)), (.ref b37)] := Own.iload r at_570 rfl
  replace r : A0 l Z n0 D h121 13 250 574 #[.val (.long dg), .second, .val (.int sh), .val (.int pt), .val (.int ps), .val (.int ij_), .val (.long v6_1), .second, .val (.int v8_2), .val (.int v9_3), .val (.int m4), .val (.int m6), .val (.int v12_9), .val (.int v13_10), .val (.int m11), .val (.int v15_13), .val (.int m14), .val (.int m19), .val (.int m29), .val (.int m31), .val (.int m33), .val (.int m35), .val (.ref b37), .unset, .unset, .unset, .unset] [(.int m6), (.int v8_2), (.int ((12 : Int32) - v9_3)), (.int (12 : Int32)), (.ref b37)] := Own.iload r at_572 rfl
  replace r : A0 l Z n0 D h121 13 250 576 #[.val (.long dg), .second, .val (.int sh), .val (.int pt), .val (.int ps), .val (.int ij_), .val (.long v6_1), .second, .val (.int v8_2), .val (.int v9_3), .val (.int m4), .val (.int m6), .val (.int v12_9), .val (.int v13_10), .val (.int m11), .val (.int v15_13), .val (.int m14), .val (.int m19), .val (.int m29), .val (.int m31), .val (.int m33), .val (.int m35), .val (.ref b37), .unset, .unset, .unset, .unset] [(.int m31), (.int m6), (.int v8_2), (.int ((12 : Int32) - v9_3)), (.int (12 : Int32)), (.ref b37)] := Own.iload r at_574 rfl
  replace r : A0 l Z n0 D h121 13 250 578 #[.val (.long dg), .second, .val (.int sh), .val (.int pt), .val (.int ps), .val (.int ij_), .val (.long v6_1), .second, .val (.int v8_2), .val (.int v9_3), .val (.int m4), .val (.int m6), .val (.int v12_9), .val (.int v13_10), .val (.int m11), .val (.int v15_13), .val (.int m14), .val (.int m19), .val (.int m29), .val (.int m31), .val (.int m33), .val (.int m35), .val (.ref b37), .unset, .unset, .unset, .unset] [(.long v6_1), (.int m31), (.int m6), (.int v8_2), (.int ((12 : Int32) - v9_3)), (.int (12 : Int32)), (.ref b37)] := Own.lload r at_576 rfl
  replace r : A0 l Z n0 D h121 13 250 580 #[.val (.long dg), .second, .val (.int sh), .val (.int pt), .val (.int ps), .val (.int ij_), .val (.long v6_1), .second, .val (.int v8_2), .val (.int v9_3), .val (.int m4), .val (.int m6), .val (.int v12_9), .val (.int v13_10), .val (.int m11), .val (.int v15_13), .val (.int m14), .val (.int m19), .val (.int m29), .val (.int m31), .val (.int m33), .val (.int m35), .val (.ref b37), .unset, .unset, .unset, .unset] [(.int m19), (.long v6_1), (.int m31), (.int m6), (.int v8_2), (.int ((12 : Int32) - v9_3)), (.int (12 : Int32)), (.ref b37)] := Own.iload r at_578 rfl
  replace r : A0 l Z n0 D h121 13 250 582 #[.val (.long dg), .second, .val (.int sh), .val (.int pt), .val (.int ps), .val (.int ij_), .val (.long v6_1), .second, .val (.int v8_2), .val (.int v9_3), .val (.int m4), .val (.int m6), .val (.int v12_9), .val (.int v13_10), .val (.int m11), .val (.int v15_13), .val (.int m14), .val (.int m19), .val (.int m29), .val (.int m31), .val (.int m33), .val (.int m35), .val (.ref b37), .unset, .unset, .unset, .unset] [(.int m11), (.int m19), (.long v6_1), (.int m31), (.int m6), (.int v8_2), (.int ((12 : Int32) - v9_3)), (.int (12 : Int32)), (.ref b37)] := Own.iload r at_580 rfl
  replace r : A0 l Z n0 D h121 13 250 584 #[.val (.long dg), .second, .val (.int sh), .val (.int pt), .val (.int ps), .val (.int ij_), .val (.long v6_1), .second, .val (.int v8_2), .val (.int v9_3), .val (.int m4), .val (.int m6), .val (.int v12_9), .val (.int v13_10), .val (.int m11), .val (.int v15_13), .val (.int m14), .val (.int m19), .val (.int m29), .val (.int m31), .val (.int m33), .val (.int m35), .val (.ref b37), .unset, .unset, .unset, .unset] [(.int m29), (.int m11), (.int m19), (.long v6_1), (.int m31), (.int m6), (.int v8_2), (.int ((12 : Int32) - v9_3)), (.int (12 : Int32)), (.ref b37)] := Own.iload r at_582 rfl
  obtain ⟨rv122, h123, hQ124, r⟩ := Own.callS [(.int ((12 : Int32) - v9_3)), (.int v8_2), (.int m6), (.int m31), (.long v6_1), (.int m19), (.int m11), (.int m29)] r at_584 (c1 l Z a0 hw n0 h121 Zs ((12 : Int32) - v9_3) v8_2 m6 m31 v6_1 m19 m11 m29 hA hj) (hw _ (List.mem_of_getElem? (i := 3) rfl)) (hw _ (List.mem_of_getElem? (i := 4) rfl)) (hw _ (List.mem_of_getElem? (i := 5) rfl)) (hw _ (List.mem_of_getElem? (i := 6) rfl)) (lenOf pd_0_0 rfl) rfl rfl (W := 2) (Nat.le_of_eq rfl) rfl (by decide) (by decide) (by decide) (by decide) (by decide)
  obtain ⟨K125, y126, rfl, e_y126⟩ := hQ124
  replace V_b37 := V_b37.keep K125 (by simp)
  replace Zs := Nat.le_trans Zs K125.1
  replace r : A0 l Z n0 D h123 14 269 587 #[.val (.long dg), .second, .val (.int sh), .val (.int pt), .val (.int ps), .val (.int ij_), .val (.long v6_1), .second, .val (.int v8_2), .val (.int v9_3), .val (.int m4), .val (.int m6), .val (.int v12_9), .val (.int v13_10), .val (.int m11), .val (.int v15_13), .val (.int m14), .val (.int m19), .val (.int m29), .val (.int m31), .val (.int m33), .val (.int m35), .val (.ref b37), .unset, .unset, .unset, .unset] [(.int y126), (.int (12 : Int32)), (.ref b37)] := r
  obtain ⟨h128, ⟨W127, V_b37⟩, r⟩ := Own.bastore r at_587 V_b37 (by decide) (Nat.le_of_ble_eq_true rfl) ge_b37
  replace r : A0 l Z n0 D h128 14 269 588 #[.val (.long dg), .second, .val (.int sh), .val (.int pt), .val (.int ps), .val (.int ij_), .val (.long v6_1), .second, .val (.int v8_2), .val (.int v9_3), .val (.int m4), .val (.int m6), .val (.int v12_9), .val (.int v13_10), .val (.int m11), .val (.int v15_13), .val (.int m14), .val (.int m19), .val (.int m29), .val (.int m31), .val (.int m33), .val (.int m35), .val (.ref b37), .unset, .unset, .unset, .unset] [] := r
  replace Zs := Nat.le_trans Zs (Nat.le_of_eq W127.size.symm)
  replace V_b37 : Own.VA Z h128 b37 .byte [(.int (nar .byte y42)), (.int (nar .byte y49)), (.int (nar .byte y56)), (.int (nar .byte y63)), (.int (nar .byte y70)), (.int (nar .byte y77)), (.int (nar .byte y84)), (.int (nar .byte y91)), (.int (nar .byte y98)), (.int (nar .byte y105)), (.int (nar .byte y112)), (.int (nar .byte y119)), (.int (nar .byte y126)), (.int (0 : Int32)), (.int (0 : Int32)), (.int (0 : Int32)), (.int (0 : Int32)), (.int (0 : Int32)), (.int (0 : Int32)), (.int (0 : Int32)), (.int (0 : Int32)), (.int (0 : Int32))] := V_b37
  replace r : A0 l Z n0 D h128 14 269 590 #[.val (.long dg), .second, .val (.int sh), .val (.int pt), .val (.int ps), .val (.int ij_), .val (.long v6_1), .second, .val (.int v8_2), .val (.int v9_3), .val (.int m4), .val (.int m6), .val (.int v12_9), .val (.int v13_10), .val (.int m11), .val (.int v15_13), .val (.int m14), .val (.int m19), .val (.int m29), .val (.int m31), .val (.int m33), .val (.int m35), .val (.ref b37), .unset, .unset, .unset, .unset] [(.ref b37)] := Own.aload r at_588 rfl rfl
  replace r : A0 l Z n0 D h128 14 269 592 #[.val (.long dg), .second, .val (.int sh), .val (.int pt), .val (.int ps), .val (.int ij_), .val (.long v6_1), .second, .val (.int v8_2), .val (.int v9_3), .val (.int m4), .val (.int m6), .val (.int v12_9), .val (.int v13_10), .val (.int m11), .val (.int v15_13), .val (.int m14), .val (.int m19), .val (.int m29), .val (.int m31), .val (.int m33), .val (.int m35), .val (.ref b37), .unset, .unset, .unset, .unset] [(.int (13 : Int32)), (.ref b37)] := Own.bipush r at_590 rfl
  replace r : A0 l Z n0 D h128 14 269 594 #[.val (.long dg), .second, .val (.int sh), .val (.int pt), .val (.int ps), .val (.int ij_), .val (.long v6_1), .second, .val (.int v8_2), .val (.int v9_3), .val (.int m4), .val (.int m6), .val (.int v12_9), .val (.int v13_10), .val (.int m11), .val (.int v15_13), .val (.int m14), .val (.int m19), .val (.int m29), .val (.int m31), .val (.int m33), .val (.int m35), .val (.ref b37), .unset, .unset, .unset, .unset] [(.int (13 : Int32)), (.int (13 : Int32)), (.ref b37)] := Own.bipush r at_592 rfl
  replace r : A0 l Z n0 D h128 14 269 596 #[.val (.long dg), .second, .val (.int sh), .val (.int pt), .val (.int ps), .val (.int ij_), .val (.long v6_1), .second, .val (.int v8_2), .val (.int v9_3), .val (.int m4), .val (.int m6), .val (.int v12_9), .val (.int v13_10), .val (.int m11), .val (.int v15_13), .val (.int m14), .val (.int m19), .val (.int m29), .val (.int m31), .val (.int m33), .val (.int m35), .val (.ref b37), .unset, .unset, .unset, .unset] [(.int v9_3), (.int (13 : Int32)), (.int (13 : Int32)), (.ref b37)] := Own.iload r at_594 rfl
  replace r : A0 l Z n0 D h128 14 269 597 #[.val (.long dg), .second, .val (.int sh), .val (.int pt), .val (.int ps), .val (.int ij_), .val (.long v6_1), .second, .val (.int v8_2), .val (.int v9_3), .val (.int m4), .val (.int m6), .val (.int v12_9), .val (.int v13_10), .val (.int m11), .val (.int v15_13), .val (.int m14), .val (.int m19), .val (.int m29), .val (.int m31), .val (.int m33), .val (.int m35), .val (.ref b37), .unset, .unset, .unset, .unset] [(.int ((13 : Int32) - v9_3)), (.int (13 : Int32)), (.ref b37)] := Own.isub r at_596
  replace r : A0 l Z n0 D h128 14 269 599 #[.val (.long dg), .second, .val (.int sh), .val (.int pt), .val (.int ps), .val (.int ij_), .val (.long v6_1), .second, .val (.int v8_2), .val (.int v9_3), .val (.int m4), .val (.int m6), .val (.int v12_9), .val (.int v13_10), .val (.int m11), .val (.int v15_13), .val (.int m14), .val (.int m19), .val (.int m29), .val (.int m31), .val (.int m33), .val (.int m35), .val (.ref b37), .unset, .unset, .unset, .unset] [(.int v8_2), (.int ((13 : Int32) - v9_3)), (.int (13 : Int32)), (.ref b37)] := Own.iload r at_597 rfl
  replace r : A0 l Z n0 D h128 14 269 601 #[.val (.long dg), .second, .val (.int sh), .val (.int pt), .val (.int ps), .val (.int ij_), .val (.long v6_1), .second, .val (.int v8_2), .val (.int v9_3), .val (.int m4), .val (.int m6), .val (.int v12_9), .val (.int v13_10), .val (.int m11), .val (.int v15_13), .val (.int m14), .val (.int m19), .val (.int m29), .val (.int m31), .val (.int m33), .val (.int m35), .val (.ref b37), .unset, .unset, .unset, .unset] [(.int m6), (.int v8_2), (.int ((13 : Int32) - v9_3)), (.int (13 : Int32)), (.ref b37)] := Own.iload r at_599 rfl
  replace r : A0 l Z n0 D h128 14 269 603 #[.val (.long dg), .second, .val (.int sh), .val (.int pt), .val (.int ps), .val (.int ij_), .val (.long v6_1), .second, .val (.int v8_2), .val (.int v9_3), .val (.int m4), .val (.int m6), .val (.int v12_9), .val (.int v13_10), .val (.int m11), .val (.int v15_13), .val (.int m14), .val (.int m19), .val (.int m29), .val (.int m31), .val (.int m33), .val (.int m35), .val (.ref b37), .unset, .unset, .unset, .unset] [(.int m31), (.int m6), (.int v8_2), (.int ((13 : Int32) - v9_3)), (.int (13 : Int32)), (.ref b37)] := Own.iload r at_601 rfl
  replace r : A0 l Z n0 D h128 14 269 605 #[.val (.long dg), .second, .val (.int sh), .val (.int pt), .val (.int ps), .val (.int ij_), .val (.long v6_1), .second, .val (.int v8_2), .val (.int v9_3), .val (.int m4), .val (.int m6), .val (.int v12_9), .val (.int v13_10), .val (.int m11), .val (.int v15_13), .val (.int m14), .val (.int m19), .val (.int m29), .val (.int m31), .val (.int m33), .val (.int m35), .val (.ref b37), .unset, .unset, .unset, .unset] [(.long v6_1), (.int m31), (.int m6), (.int v8_2), (.int ((13 : Int32) - v9_3)), (.int (13 : Int32)), (.ref b37)] := Own.lload r at_603 rfl
  replace r : A0 l Z n0 D h128 14 269 607 #[.val (.long dg), .second, .val (.int sh), .val (.int pt), .val (.int ps), .val (.int ij_), .val (.long v6_1), .second, .val (.int v8_2), .val (.int v9_3), .val (.int m4), .val (.int m6), .val (.int v12_9), .val (.int v13_10), .val (.int m11), .val (.int v15_13), .val (.int m14), .val (.int m19), .val (.int m29), .val (.int m31), .val (.int m33), .val (.int m35), .val (.ref b37), .unset, .unset, .unset, .unset] [(.int m19), (.long v6_1), (.int m31), (.int m6), (.int v8_2), (.int ((13 : Int32) - v9_3)), (.int (13 : Int32)), (.ref b37)] := Own.iload r at_605 rfl
  replace r : A0 l Z n0 D h128 14 269 609 #[.val (.long dg), .second, .val (.int sh), .val (.int pt), .val (.int ps), .val (.int ij_), .val (.long v6_1), .second, .val (.int v8_2), .val (.int v9_3), .val (.int m4), .val (.int m6), .val (.int v12_9), .val (.int v13_10), .val (.int m11), .val (.int v15_13), .val (.int m14), .val (.int m19), .val (.int m29), .val (.int m31), .val (.int m33), .val (.int m35), .val (.ref b37), .unset, .unset, .unset, .unset] [(.int m11), (.int m19), (.long v6_1), (.int m31), (.int m6), (.int v8_2), (.int ((13 : Int32) - v9_3)), (.int (13 : Int32)), (.ref b37)] := Own.iload r at_607 rfl
  replace r : A0 l Z n0 D h128 14 269 611 #[.val (.long dg), .second, .val (.int sh), .val (.int pt), .val (.int ps), .val (.int ij_), .val (.long v6_1), .second, .val (.int v8_2), .val (.int v9_3), .val (.int m4), .val (.int m6), .val (.int v12_9), .val (.int v13_10), .val (.int m11), .val (.int v15_13), .val (.int m14), .val (.int m19), .val (.int m29), .val (.int m31), .val (.int m33), .val (.int m35), .val (.ref b37), .unset, .unset, .unset, .unset] [(.int m29), (.int m11), (.int m19), (.long v6_1), (.int m31), (.int m6), (.int v8_2), (.int ((13 : Int32) - v9_3)), (.int (13 : Int32)), (.ref b37)] := Own.iload r at_609 rfl
  obtain ⟨rv129, h130, hQ131, r⟩ := Own.callS [(.int ((13 : Int32) - v9_3)), (.int v8_2), (.int m6), (.int m31), (.long v6_1), (.int m19), (.int m11), (.int m29)] r at_611 (c1 l Z a0 hw n0 h128 Zs ((13 : Int32) - v9_3) v8_2 m6 m31 v6_1 m19 m11 m29 hA hj) (hw _ (List.mem_of_getElem? (i := 3) rfl)) (hw _ (List.mem_of_getElem? (i := 4) rfl)) (hw _ (List.mem_of_getElem? (i := 5) rfl)) (hw _ (List.mem_of_getElem? (i := 6) rfl)) (lenOf pd_0_0 rfl) rfl rfl (W := 2) (Nat.le_of_eq rfl) rfl (by decide) (by decide) (by decide) (by decide) (by decide)
  obtain ⟨K132, y133, rfl, e_y133⟩ := hQ131
  replace V_b37 := V_b37.keep K132 (by simp)
  replace Zs := Nat.le_trans Zs K132.1
  replace r : A0 l Z n0 D h130 15 288 614 #[.val (.long dg), .second, .val (.int sh), .val (.int pt), .val (.int ps), .val (.int ij_), .val (.long v6_1), .second, .val (.int v8_2), .val (.int v9_3), .val (.int m4), .val (.int m6), .val (.int v12_9), .val (.int v13_10), .val (.int m11), .val (.int v15_13), .val (.int m14), .val (.int m19), .val (.int m29), .val (.int m31), .val (.int m33), .val (.int m35), .val (.ref b37), .unset, .unset, .unset, .unset] [(.int y133), (.int (13 : Int32)), (.ref b37)] := r
  obtain ⟨h135, ⟨W134, V_b37⟩, r⟩ := Own.bastore r at_614 V_b37 (by decide) (Nat.le_of_ble_eq_true rfl) ge_b37
  replace r : A0 l Z n0 D h135 15 288 615 #[.val (.long dg), .second, .val (.int sh), .val (.int pt), .val (.int ps), .val (.int ij_), .val (.long v6_1), .second, .val (.int v8_2), .val (.int v9_3), .val (.int m4), .val (.int m6), .val (.int v12_9), .val (.int v13_10), .val (.int m11), .val (.int v15_13), .val (.int m14), .val (.int m19), .val (.int m29), .val (.int m31), .val (.int m33), .val (.int m35), .val (.ref b37), .unset, .unset, .unset, .unset] [] := r
  replace Zs := Nat.le_trans Zs (Nat.le_of_eq W134.size.symm)
  replace V_b37 : Own.VA Z h135 b37 .byte [(.int (nar .byte y42)), (.int (nar .byte y49)), (.int (nar .byte y56)), (.int (nar .byte y63)), (.int (nar .byte y70)), (.int (nar .byte y77)), (.int (nar .byte y84)), (.int (nar .byte y91)), (.int (nar .byte y98)), (.int (nar .byte y105)), (.int (nar .byte y112)), (.int (nar .byte y119)), (.int (nar .byte y126)), (.int (nar .byte y133)), (.int (0 : Int32)), (.int (0 : Int32)), (.int (0 : Int32)), (.int (0 : Int32)), (.int (0 : Int32)), (.int (0 : Int32)), (.int (0 : Int32)), (.int (0 : Int32))] := V_b37
  replace r : A0 l Z n0 D h135 15 288 617 #[.val (.long dg), .second, .val (.int sh), .val (.int pt), .val (.int ps), .val (.int ij_), .val (.long v6_1), .second, .val (.int v8_2), .val (.int v9_3), .val (.int m4), .val (.int m6), .val (.int v12_9), .val (.int v13_10), .val (.int m11), .val (.int v15_13), .val (.int m14), .val (.int m19), .val (.int m29), .val (.int m31), .val (.int m33), .val (.int m35), .val (.ref b37), .unset, .unset, .unset, .unset] [(.ref b37)] := Own.aload r at_615 rfl rfl
  replace r : A0 l Z n0 D h135 15 288 619 #[.val (.long dg), .second, .val (.int sh), .val (.int pt), .val (.int ps), .val (.int ij_), .val (.long v6_1), .second, .val (.int v8_2), .val (.int v9_3), .val (.int m4), .val (.int m6), .val (.int v12_9), .val (.int v13_10), .val (.int m11), .val (.int v15_13), .val (.int m14), .val (.int m19), .val (.int m29), .val (.int m31), .val (.int m33), .val (.int m35), .val (.ref b37), .unset, .unset, .unset, .unset] [(.int (14 : Int32)), (.ref b37)] := Own.bipush r at_617 rfl
  replace r : A0 l Z n0 D h135 15 288 621 #[.val (.long dg), .second, .val (.int sh), .val (.int pt), .val (.int ps), .val (.int ij_), .val (.long v6_1), .second, .val (.int v8_2), .val (.int v9_3), .val (.int m4), .val (.int m6), .val (.int v12_9), .val (.int v13_10), .val (.int m11), .val (.int v15_13), .val (.int m14), .val (.int m19), .val (.int m29), .val (.int m31), .val (.int m33), .val (.int m35), .val (.ref b37), .unset, .unset, .unset, .unset] [(.int (14 : Int32)), (.int (14 : Int32)), (.ref b37)] := Own.bipush r at_619 rfl
  replace r : A0 l Z n0 D h135 15 288 623 #[.val (.long dg), .second, .val (.int sh), .val (.int pt), .val (.int ps), .val (.int ij_), .val (.long v6_1), .second, .val (.int v8_2), .val (.int v9_3), .val (.int m4), .val (.int m6), .val (.int v12_9), .val (.int v13_10), .val (.int m11), .val (.int v15_13), .val (.int m14), .val (.int m19), .val (.int m29), .val (.int m31), .val (.int m33), .val (.int m35), .val (.ref b37), .unset, .unset, .unset, .unset] [(.int v9_3), (.int (14 : Int32)), (.int (14 : Int32)), (.ref b37)] := Own.iload r at_621 rfl
  replace r : A0 l Z n0 D h135 15 288 624 #[.val (.long dg), .second, .val (.int sh), .val (.int pt), .val (.int ps), .val (.int ij_), .val (.long v6_1), .second, .val (.int v8_2), .val (.int v9_3), .val (.int m4), .val (.int m6), .val (.int v12_9), .val (.int v13_10), .val (.int m11), .val (.int v15_13), .val (.int m14), .val (.int m19), .val (.int m29), .val (.int m31), .val (.int m33), .val (.int m35), .val (.ref b37), .unset, .unset, .unset, .unset] [(.int ((14 : Int32) - v9_3)), (.int (14 : Int32)), (.ref b37)] := Own.isub r at_623
  replace r : A0 l Z n0 D h135 15 288 626 #[.val (.long dg), .second, .val (.int sh), .val (.int pt), .val (.int ps), .val (.int ij_), .val (.long v6_1), .second, .val (.int v8_2), .val (.int v9_3), .val (.int m4), .val (.int m6), .val (.int v12_9), .val (.int v13_10), .val (.int m11), .val (.int v15_13), .val (.int m14), .val (.int m19), .val (.int m29), .val (.int m31), .val (.int m33), .val (.int m35), .val (.ref b37), .unset, .unset, .unset, .unset] [(.int v8_2), (.int ((14 : Int32) - v9_3)), (.int (14 : Int32)), (.ref b37)] := Own.iload r at_624 rfl
  replace r : A0 l Z n0 D h135 15 288 628 #[.val (.long dg), .second, .val (.int sh), .val (.int pt), .val (.int ps), .val (.int ij_), .val (.long v6_1), .second, .val (.int v8_2), .val (.int v9_3), .val (.int m4), .val (.int m6), .val (.int v12_9), .val (.int v13_10), .val (.int m11), .val (.int v15_13), .val (.int m14), .val (.int m19), .val (.int m29), .val (.int m31), .val (.int m33), .val (.int m35), .val (.ref b37), .unset, .unset, .unset, .unset] [(.int m6), (.int v8_2), (.int ((14 : Int32) - v9_3)), (.int (14 : Int32)), (.ref b37)] := Own.iload r at_626 rfl
  replace r : A0 l Z n0 D h135 15 288 630 #[.val (.long dg), .second, .val (.int sh), .val (.int pt), .val (.int ps), .val (.int ij_), .val (.long v6_1), .second, .val (.int v8_2), .val (.int v9_3), .val (.int m4), .val (.int m6), .val (.int v12_9), .val (.int v13_10), .val (.int m11), .val (.int v15_13), .val (.int m14), .val (.int m19), .val (.int m29), .val (.int m31), .val (.int m33), .val (.int m35), .val (.ref b37), .unset, .unset, .unset, .unset] [(.int m31), (.int m6), (.int v8_2), (.int ((14 : Int32) - v9_3)), (.int (14 : Int32)), (.ref b37)] := Own.iload r at_628 rfl
  replace r : A0 l Z n0 D h135 15 288 632 #[.val (.long dg), .second, .val (.int sh), .val (.int pt), .val (.int ps), .val (.int ij_), .val (.long v6_1), .second, .val (.int v8_2), .val (.int v9_3), .val (.int m4), .val (.int m6), .val (.int v12_9), .val (.int v13_10), .val (.int m11), .val (.int v15_13), .val (.int m14), .val (.int m19), .val (.int m29), .val (.int m31), .val (.int m33), .val (.int m35), .val (.ref b37), .unset, .unset, .unset, .unset] [(.long v6_1), (.int m31), (.int m6), (.int v8_2), (.int ((14 : Int32) - v9_3)), (.int (14 : Int32)), (.ref b37)] := Own.lload r at_630 rfl
  replace r : A0 l Z n0 D h135 15 288 634 #[.val (.long dg), .second, .val (.int sh), .val (.int pt), .val (.int ps), .val (.int ij_), .val (.long v6_1), .second, .val (.int v8_2), .val (.int v9_3), .val (.int m4), .val (.int m6), .val (.int v12_9), .val (.int v13_10), .val (.int m11), .val (.int v15_13), .val (.int m14), .val (.int m19), .val (.int m29), .val (.int m31), .val (.int m33), .val (.int m35), .val (.ref b37), .unset, .unset, .unset, .unset] [(.int m19), (.long v6_1), (.int m31), (.int m6), (.int v8_2), (.int ((14 : Int32) - v9_3)), (.int (14 : Int32)), (.ref b37)] := Own.iload r at_632 rfl
  replace r : A0 l Z n0 D h135 15 288 636 #[.val (.long dg), .second, .val (.int sh), .val (.int pt), .val (.int ps), .val (.int ij_), .val (.long v6_1), .second, .val (.int v8_2), .val (.int v9_3), .val (.int m4), .val (.int m6), .val (.int v12_9), .val (.int v13_10), .val (.int m11), .val (.int v15_13), .val (.int m14), .val (.int m19), .val (.int m29), .val (.int m31), .val (.int m33), .val (.int m35), .val (.ref b37), .unset, .unset, .unset, .unset] [(.int m11), (.int m19), (.long v6_1), (.int m31), (.int m6), (.int v8_2), (.int ((14 : Int32) - v9_3)), (.int (14 : Int32)), (.ref b37)] := Own.iload r at_634 rfl
  replace r : A0 l Z n0 D h135 15 288 638 #[.val (.long dg), .second, .val (.int sh), .val (.int pt), .val (.int ps), .val (.int ij_), .val (.long v6_1), .second, .val (.int v8_2), .val (.int v9_3), .val (.int m4), .val (.int m6), .val (.int v12_9), .val (.int v13_10), .val (.int m11), .val (.int v15_13), .val (.int m14), .val (.int m19), .val (.int m29), .val (.int m31), .val (.int m33), .val (.int m35), .val (.ref b37), .unset, .unset, .unset, .unset] [(.int m29), (.int m11), (.int m19), (.long v6_1), (.int m31), (.int m6), (.int v8_2), (.int ((14 : Int32) - v9_3)), (.int (14 : Int32)), (.ref b37)] := Own.iload r at_636 rfl
  obtain ⟨rv136, h137, hQ138, r⟩ := Own.callS [(.int ((14 : Int32) - v9_3)), (.int v8_2), (.int m6), (.int m31), (.long v6_1), (.int m19), (.int m11), (.int m29)] r at_638 (c1 l Z a0 hw n0 h135 Zs ((14 : Int32) - v9_3) v8_2 m6 m31 v6_1 m19 m11 m29 hA hj) (hw _ (List.mem_of_getElem? (i := 3) rfl)) (hw _ (List.mem_of_getElem? (i := 4) rfl)) (hw _ (List.mem_of_getElem? (i := 5) rfl)) (hw _ (List.mem_of_getElem? (i := 6) rfl)) (lenOf pd_0_0 rfl) rfl rfl (W := 2) (Nat.le_of_eq rfl) rfl (by decide) (by decide) (by decide) (by decide) (by decide)
  obtain ⟨K139, y140, rfl, e_y140⟩ := hQ138
  replace V_b37 := V_b37.keep K139 (by simp)
  replace Zs := Nat.le_trans Zs K139.1
  replace r : A0 l Z n0 D h137 16 307 641 #[.val (.long dg), .second, .val (.int sh), .val (.int pt), .val (.int ps), .val (.int ij_), .val (.long v6_1), .second, .val (.int v8_2), .val (.int v9_3), .val (.int m4), .val (.int m6), .val (.int v12_9), .val (.int v13_10), .val (.int m11), .val (.int v15_13), .val (.int m14), .val (.int m19), .val (.int m29), .val (.int m31), .val (.int m33), .val (.int m35), .val (.ref b37), .unset, .unset, .unset, .unset] [(.int y140), (.int (14 : Int32)), (.ref b37)] := r
  obtain ⟨h142, ⟨W141, V_b37⟩, r⟩ := Own.bastore r at_641 V_b37 (by decide) (Nat.le_of_ble_eq_true rfl) ge_b37
  replace r : A0 l Z n0 D h142 16 307 642 #[.val (.long dg), .second, .val (.int sh), .val (.int pt), .val (.int ps), .val (.int ij_), .val (.long v6_1), .second, .val (.int v8_2), .val (.int v9_3), .val (.int m4), .val (.int m6), .val (.int v12_9), .val (.int v13_10), .val (.int m11), .val (.int v15_13), .val (.int m14), .val (.int m19), .val (.int m29), .val (.int m31), .val (.int m33), .val (.int m35), .val (.ref b37), .unset, .unset, .unset, .unset] [] := r
  replace Zs := Nat.le_trans Zs (Nat.le_of_eq W141.size.symm)
  replace V_b37 : Own.VA Z h142 b37 .byte [(.int (nar .byte y42)), (.int (nar .byte y49)), (.int (nar .byte y56)), (.int (nar .byte y63)), (.int (nar .byte y70)), (.int (nar .byte y77)), (.int (nar .byte y84)), (.int (nar .byte y91)), (.int (nar .byte y98)), (.int (nar .byte y105)), (.int (nar .byte y112)), (.int (nar .byte y119)), (.int (nar .byte y126)), (.int (nar .byte y133)), (.int (nar .byte y140)), (.int (0 : Int32)), (.int (0 : Int32)), (.int (0 : Int32)), (.int (0 : Int32)), (.int (0 : Int32)), (.int (0 : Int32)), (.int (0 : Int32))] := V_b37
  replace r : A0 l Z n0 D h142 16 307 644 #[.val (.long dg), .second, .val (.int sh), .val (.int pt), .val (.int ps), .val (.int ij_), .val (.long v6_1), .second, .val (.int v8_2), .val (.int v9_3), .val (.int m4), .val (.int m6), .val (.int v12_9), .val (.int v13_10), .val (.int m11), .val (.int v15_13), .val (.int m14), .val (.int m19), .val (.int m29), .val (.int m31), .val (.int m33), .val (.int m35), .val (.ref b37), .unset, .unset, .unset, .unset] [(.ref b37)] := Own.aload r at_642 rfl rfl
  replace r : A0 l Z n0 D h142 16 307 646 #[.val (.long dg), .second, .val (.int sh), .val (.int pt), .val (.int ps), .val (.int ij_), .val (.long v6_1), .second, .val (.int v8_2), .val (.int v9_3), .val (.int m4), .val (.int m6), .val (.int v12_9), .val (.int v13_10), .val (.int m11), .val (.int v15_13), .val (.int m14), .val (.int m19), .val (.int m29), .val (.int m31), .val (.int m33), .val (.int m35), .val (.ref b37), .unset, .unset, .unset, .unset] [(.int (15 : Int32)), (.ref b37)] := Own.bipush r at_644 rfl
  replace r : A0 l Z n0 D h142 16 307 648 #[.val (.long dg), .second, .val (.int sh), .val (.int pt), .val (.int ps), .val (.int ij_), .val (.long v6_1), .second, .val (.int v8_2), .val (.int v9_3), .val (.int m4), .val (.int m6), .val (.int v12_9), .val (.int v13_10), .val (.int m11), .val (.int v15_13), .val (.int m14), .val (.int m19), .val (.int m29), .val (.int m31), .val (.int m33), .val (.int m35), .val (.ref b37), .unset, .unset, .unset, .unset] [(.int (15 : Int32)), (.int (15 : Int32)), (.ref b37)] := Own.bipush r at_646 rfl
  replace r : A0 l Z n0 D h142 16 307 650 #[.val (.long dg), .second, .val (.int sh), .val (.int pt), .val (.int ps), .val (.int ij_), .val (.long v6_1), .second, .val (.int v8_2), .val (.int v9_3), .val (.int m4), .val (.int m6), .val (.int v12_9), .val (.int v13_10), .val (.int m11), .val (.int v15_13), .val (.int m14), .val (.int m19), .val (.int m29), .val (.int m31), .val (.int m33), .val (.int m35), .val (.ref b37), .unset, .unset, .unset, .unset] [(.int v9_3), (.int (15 : Int32)), (.int (15 : Int32)), (.ref b37)] := Own.iload r at_648 rfl
  replace r : A0 l Z n0 D h142 16 307 651 #[.val (.long dg), .second, .val (.int sh), .val (.int pt), .val (.int ps), .val (.int ij_), .val (.long v6_1), .second, .val (.int v8_2), .val (.int v9_3), .val (.int m4), .val (.int m6), .val (.int v12_9), .val (.int v13_10), .val (.int m11), .val (.int v15_13), .val (.int m14), .val (.int m19), .val (.int m29), .val (.int m31), .val (.int m33), .val (.int m35), .val (.ref b37), .unset, .unset, .unset, .unset] [(.int ((15 : Int32) - v9_3)), (.int (15 : Int32)), (.ref b37)] := Own.isub r at_650
  replace r : A0 l Z n0 D h142 16 307 653 #[.val (.long dg), .second, .val (.int sh), .val (.int pt), .val (.int ps), .val (.int ij_), .val (.long v6_1), .second, .val (.int v8_2), .val (.int v9_3), .val (.int m4), .val (.int m6), .val (.int v12_9), .val (.int v13_10), .val (.int m11), .val (.int v15_13), .val (.int m14), .val (.int m19), .val (.int m29), .val (.int m31), .val (.int m33), .val (.int m35), .val (.ref b37), .unset, .unset, .unset, .unset] [(.int v8_2), (.int ((15 : Int32) - v9_3)), (.int (15 : Int32)), (.ref b37)] := Own.iload r at_651 rfl
  replace r : A0 l Z n0 D h142 16 307 655 #[.val (.long dg), .second, .val (.int sh), .val (.int pt), .val (.int ps), .val (.int ij_), .val (.long v6_1), .second, .val (.int v8_2), .val (.int v9_3), .val (.int m4), .val (.int m6), .val (.int v12_9), .val (.int v13_10), .val (.int m11), .val (.int v15_13), .val (.int m14), .val (.int m19), .val (.int m29), .val (.int m31), .val (.int m33), .val (.int m35), .val (.ref b37), .unset, .unset, .unset, .unset] [(.int m6), (.int v8_2), (.int ((15 : Int32) - v9_3)), (.int (15 : Int32)), (.ref b37)] := Own.iload r at_653 rfl
  replace r : A0 l Z n0 D h142 16 307 657 #[.val (.long dg), .second, .val (.int sh), .val (.int pt), .val (.int ps), .val (.int ij_), .val (.long v6_1), .second, .val (.int v8_2), .val (.int v9_3), .val (.int m4), .val (.int m6), .val (.int v12_9), .val (.int v13_10), .val (.int m11), .val (.int v15_13), .val (.int m14), .val (.int m19), .val (.int m29), .val (.int m31), .val (.int m33), .val (.int m35), .val (.ref b37), .unset, .unset, .unset, .unset] [(.int m31), (.int m6), (.int v8_2), (.int ((15 : Int32) - v9_3)), (.int (15 : Int32)), (.ref b37)] := Own.iload r at_655 rfl
  replace r : A0 l Z n0 D h142 16 307 659 #[.val (.long dg), .second, .val (.int sh), .val (.int pt), .val (.int ps), .val (.int ij_), .val (.long v6_1), .second, .val (.int v8_2), .val (.int v9_3), .val (.int m4), .val (.int m6), .val (.int v12_9), .val (.int v13_10), .val (.int m11), .val (.int v15_13), .val (.int m14), .val (.int m19), .val (.int m29), .val (.int m31), .val (.int m33), .val (.int m35), .val (.ref b37), .unset, .unset, .unset, .unset] [(.long v6_1), (.int m31), (.int m6), (.int v8_2), (.int ((15 : Int32) - v9_3)), (.int (15 : Int32)), (.ref b37)] := Own.lload r at_657 rfl
  replace r : A0 l Z n0 D h142 16 307 661 #[.val (.long dg), .second, .val (.int sh), .val (.int pt), .val (.int ps), .val (.int ij_), .val (.long v6_1), .second, .val (.int v8_2), .val (.int v9_3), .val (.int m4), .val (.int m6), .val (.int v12_9), .val (.int v13_10), .val (.int m11), .val (.int v15_13), .val (.int m14), .val (.int m19), .val (.int m29), .val (.int m31), .val (.int m33), .val (.int m35), .val (.ref b37), .unset, .unset, .unset, .unset] [(.int m19), (.long v6_1), (.int m31), (.int m6), (.int v8_2), (.int ((15 : Int32) - v9_3)), (.int (15 : Int32)), (.ref b37)] := Own.iload r at_659 rfl
  replace r : A0 l Z n0 D h142 16 307 663 #[.val (.long dg), .second, .val (.int sh), .val (.int pt), .val (.int ps), .val (.int ij_), .val (.long v6_1), .second, .val (.int v8_2), .val (.int v9_3), .val (.int m4), .val (.int m6), .val (.int v12_9), .val (.int v13_10), .val (.int m11), .val (.int v15_13), .val (.int m14), .val (.int m19), .val (.int m29), .val (.int m31), .val (.int m33), .val (.int m35), .val (.ref b37), .unset, .unset, .unset, .unset] [(.int m11), (.int m19), (.long v6_1), (.int m31), (.int m6), (.int v8_2), (.int ((15 : Int32) - v9_3)), (.int (15 : Int32)), (.ref b37)] := Own.iload r at_661 rfl
  replace r : A0 l Z n0 D h142 16 307 665 #[.val (.long dg), .second, .val (.int sh), .val (.int pt), .val (.int ps), .val (.int ij_), .val (.long v6_1), .second, .val (.int v8_2), .val (.int v9_3), .val (.int m4), .val (.int m6), .val (.int v12_9), .val (.int v13_10), .val (.int m11), .val (.int v15_13), .val (.int m14), .val (.int m19), .val (.int m29), .val (.int m31), .val (.int m33), .val (.int m35), .val (.ref b37), .unset, .unset, .unset, .unset] [(.int m29), (.int m11), (.int m19), (.long v6_1), (.int m31), (.int m6), (.int v8_2), (.int ((15 : Int32) - v9_3)), (.int (15 : Int32)), (.ref b37)] := Own.iload r at_663 rfl
  obtain ⟨rv143, h144, hQ145, r⟩ := Own.callS [(.int ((15 : Int32) - v9_3)), (.int v8_2), (.int m6), (.int m31), (.long v6_1), (.int m19), (.int m11), (.int m29)] r at_665 (c1 l Z a0 hw n0 h142 Zs ((15 : Int32) - v9_3) v8_2 m6 m31 v6_1 m19 m11 m29 hA hj) (hw _ (List.mem_of_getElem? (i := 3) rfl)) (hw _ (List.mem_of_getElem? (i := 4) rfl)) (hw _ (List.mem_of_getElem? (i := 5) rfl)) (hw _ (List.mem_of_getElem? (i := 6) rfl)) (lenOf pd_0_0 rfl) rfl rfl (W := 2) (Nat.le_of_eq rfl) rfl (by decide) (by decide) (by decide) (by decide) (by decide)
  obtain ⟨K146, y147, rfl, e_y147⟩ := hQ145
  replace V_b37 := V_b37.keep K146 (by simp)
  replace Zs := Nat.le_trans Zs K146.1
  replace r : A0 l Z n0 D h144 17 326 668 #[.val (.long dg), .second, .val (.int sh), .val (.int pt), .val (.int ps), .val (.int ij_), .val (.long v6_1), .second, .val (.int v8_2), .val (.int v9_3), .val (.int m4), .val (.int m6), .val (.int v12_9), .val (.int v13_10), .val (.int m11), .val (.int v15_13), .val (.int m14), .val (.int m19), .val (.int m29), .val (.int m31), .val (.int m33), .val (.int m35), .val (.ref b37), .unset, .unset, .unset, .unset] [(.int y147), (.int (15 : Int32)), (.ref b37)] := r
  obtain ⟨h149, ⟨W148, V_b37⟩, r⟩ := Own.bastore r at_668 V_b37 (by decide) (Nat.le_of_ble_eq_true rfl) ge_b37
  replace r : A0 l Z n0 D h149 17 326 669 #[.val (.long dg), .second, .val (.int sh), .val (.int pt), .val (.int ps), .val (.int ij_), .val (.long v6_1), .second, .val (.int v8_2), .val (.int v9_3), .val (.int m4), .val (.int m6), .val (.int v12_9), .val (.int v13_10), .val (.int m11), .val (.int v15_13), .val (.int m14), .val (.int m19), .val (.int m29), .val (.int m31), .val (.int m33), .val (.int m35), .val (.ref b37), .unset, .unset, .unset, .unset] [] := r
  replace Zs := Nat.le_trans Zs (Nat.le_of_eq W148.size.symm)
  replace V_b37 : Own.VA Z h149 b37 .byte [(.int (nar .byte y42)), (.int (nar .byte y49)), (.int (nar .byte y56)), (.int (nar .byte y63)), (.int (nar .byte y70)), (.int (nar .byte y77)), (.int (nar .byte y84)), (.int (nar .byte y91)), (.int (nar .byte y98)), (.int (nar .byte y105)), (.int (nar .byte y112)), (.int (nar .byte y119)), (.int (nar .byte y126)), (.int (nar .byte y133)), (.int (nar .byte y140)), (.int (nar .byte y147)), (.int (0 : Int32)), (.int (0 : Int32)), (.int (0 : Int32)), (.int (0 : Int32)), (.int (0 : Int32)), (.int (0 : Int32))] := V_b37
  replace r : A0 l Z n0 D h149 17 326 671 #[.val (.long dg), .second, .val (.int sh), .val (.int pt), .val (.int ps), .val (.int ij_), .val (.long v6_1), .second, .val (.int v8_2), .val (.int v9_3), .val (.int m4), .val (.int m6), .val (.int v12_9), .val (.int v13_10), .val (.int m11), .val (.int v15_13), .val (.int m14), .val (.int m19), .val (.int m29), .val (.int m31), .val (.int m33), .val (.int m35), .val (.ref b37), .unset, .unset, .unset, .unset] [(.ref b37)] := Own.aload r at_669 rfl rfl
  replace r : A0 l Z n0 D h149 17 326 673 #[.val (.long dg), .second, .val (.int sh), .val (.int pt), .val (.int ps), .val (.int ij_), .val (.long v6_1), .second, .val (.int v8_2), .val (.int v9_3), .val (.int m4), .val (.int m6), .val (.int v12_9), .val (.int v13_10), .val (.int m11), .val (.int v15_13), .val (.int m14), .val (.int m19), .val (.int m29), .val (.int m31), .val (.int m33), .val (.int m35), .val (.ref b37), .unset, .unset, .unset, .unset] [(.int (16 : Int32)), (.ref b37)] := Own.bipush r at_671 rfl
  replace r : A0 l Z n0 D h149 17 326 675 #[.val (.long dg), .second, .val (.int sh), .val (.int pt), .val (.int ps), .val (.int ij_), .val (.long v6_1), .second, .val (.int v8_2), .val (.int v9_3), .val (.int m4), .val (.int m6), .val (.int v12_9), .val (.int v13_10), .val (.int m11), .val (.int v15_13), .val (.int m14), .val (.int m19), .val (.int m29), .val (.int m31), .val (.int m33), .val (.int m35), .val (.ref b37), .unset, .unset, .unset, .unset] [(.int (16 : Int32)), (.int (16 : Int32)), (.ref b37)] := Own.bipush r at_673 rfl
  replace r : A0 l Z n0 D h149 17 326 677 #[.val (.long dg), .second, .val (.int sh), .val (.int pt), .val (.int ps), .val (.int ij_), .val (.long v6_1), .second, .val (.int v8_2), .val (.int v9_3), .val (.int m4), .val (.int m6), .val (.int v12_9), .val (.int v13_10), .val (.int m11), .val (.int v15_13), .val (.int m14), .val (.int m19), .val (.int m29), .val (.int m31), .val (.int m33), .val (.int m35), .val (.ref b37), .unset, .unset, .unset, .unset] [(.int v9_3), (.int (16 : Int32)), (.int (16 : Int32)), (.ref b37)] := Own.iload r at_675 rfl
  replace r : A0 l Z n0 D h149 17 326 678 #[.val (.long dg), .second, .val (.int sh), .val (.int pt), .val (.int ps), .val (.int ij_), .val (.long v6_1), .second, .val (.int v8_2), .val (.int v9_3), .val (.int m4), .val (.int m6), .val (.int v12_9), .val (.int v13_10), .val (.int m11), .val (.int v15_13), .val (.int m14), .val (.int m19), .val (.int m29), .val (.int m31), .val (.int m33), .val (.int m35), .val (.ref b37), .unset, .unset, .unset, .unset] [(.int ((16 : Int32) - v9_3)), (.int (16 : Int32)), (.ref b37)] := Own.isub r at_677
  replace r : A0 l Z n0 D h149 17 326 680 #[.val (.long dg), .second, .val (.int sh), .val (.int pt), .val (.int ps), .val (.int ij_), .val (.long v6_1), .second, .val (.int v8_2), .val (.int v9_3), .val (.int m4), .val (.int m6), .val (.int v12_9), .val (.int v13_10), .val (.int m11), .val (.int v15_13), .val (.int m14), .val (.int m19), .val (.int m29), .val (.int m31), .val (.int m33), .val (.int m35), .val (.ref b37), .unset, .unset, .unset, .unset] [(.int v8_2), (.int ((16 : Int32) - v9_3)), (.int (16 : Int32)), (.ref b37)] := Own.iload r at_678 rfl
  replace r : A0 l Z n0 D h149 17 326 682 #[.val (.long dg), .second, .val (.int sh), .val (.int pt), .val (.int ps), .val (.int ij_), .val (.long v6_1), .second, .val (.int v8_2), .val (.int v9_3), .val (.int m4), .val (.int m6), .val (.int v12_9), .val (.int v13_10), .val (.int m11), .val (.int v15_13), .val (.int m14), .val (.int m19), .val (.int m29), .val (.int m31), .val (.int m33), .val (.int m35), .val (.ref b37), .unset, .unset, .unset, .unset] [(.int m6), (.int v8_2), (.int ((16 : Int32) - v9_3)), (.int (16 : Int32)), (.ref b37)] := Own.iload r at_680 rfl
  replace r : A0 l Z n0 D h149 17 326 684 #[.val (.long dg), .second, .val (.int sh), .val (.int pt), .val (.int ps), .val (.int ij_), .val (.long v6_1), .second, .val (.int v8_2), .val (.int v9_3), .val (.int m4), .val (.int m6), .val (.int v12_9), .val (.int v13_10), .val (.int m11), .val (.int v15_13), .val (.int m14), .val (.int m19), .val (.int m29), .val (.int m31), .val (.int m33), .val (.int m35), .val (.ref b37), .unset, .unset, .unset, .unset] [(.int m31), (.int m6), (.int v8_2), (.int ((16 : Int32) - v9_3)), (.int (16 : Int32)), (.ref b37)] := Own.iload r at_682 rfl
  replace r : A0 l Z n0 D h149 17 326 686 #[.val (.long dg), .second, .val (.int sh), .val (.int pt), .val (.int ps), .val (.int ij_), .val (.long v6_1), .second, .val (.int v8_2), .val (.int v9_3), .val (.int m4), .val (.int m6), .val (.int v12_9), .val (.int v13_10), .val (.int m11), .val (.int v15_13), .val (.int m14), .val (.int m19), .val (.int m29), .val (.int m31), .val (.int m33), .val (.int m35), .val (.ref b37), .unset, .unset, .unset, .unset] [(.long v6_1), (.int m31), (.int m6), (.int v8_2), (.int ((16 : Int32) - v9_3)), (.int (16 : Int32)), (.ref b37)] := Own.lload r at_684 rfl
  replace r : A0 l Z n0 D h149 17 326 688 #[.val (.long dg), .second, .val (.int sh), .val (.int pt), .val (.int ps), .val (.int ij_), .val (.long v6_1), .second, .val (.int v8_2), .val (.int v9_3), .val (.int m4), .val (.int m6), .val (.int v12_9), .val (.int v13_10), .val (.int m11), .val (.int v15_13), .val (.int m14), .val (.int m19), .val (.int m29), .val (.int m31), .val (.int m33), .val (.int m35), .val (.ref b37), .unset, .unset, .unset, .unset] [(.int m19), (.long v6_1), (.int m31), (.int m6), (.int v8_2), (.int ((16 : Int32) - v9_3)), (.int (16 : Int32)), (.ref b37)] := Own.iload r at_686 rfl
  replace r : A0 l Z n0 D h149 17 326 690 #[.val (.long dg), .second, .val (.int sh), .val (.int pt), .val (.int ps), .val (.int ij_), .val (.long v6_1), .second, .val (.int v8_2), .val (.int v9_3), .val (.int m4), .val (.int m6), .val (.int v12_9), .val (.int v13_10), .val (.int m11), .val (.int v15_13), .val (.int m14), .val (.int m19), .val (.int m29), .val (.int m31), .val (.int m33), .val (.int m35), .val (.ref b37), .unset, .unset, .unset, .unset] [(.int m11), (.int m19), (.long v6_1), (.int m31), (.int m6), (.int v8_2), (.int ((16 : Int32) - v9_3)), (.int (16 : Int32)), (.ref b37)] := Own.iload r at_688 rfl
  replace r : A0 l Z n0 D h149 17 326 692 #[.val (.long dg), .second, .val (.int sh), .val (.int pt), .val (.int ps), .val (.int ij_), .val (.long v6_1), .second, .val (.int v8_2), .val (.int v9_3), .val (.int m4), .val (.int m6), .val (.int v12_9), .val (.int v13_10), .val (.int m11), .val (.int v15_13), .val (.int m14), .val (.int m19), .val (.int m29), .val (.int m31), .val (.int m33), .val (.int m35), .val (.ref b37), .unset, .unset, .unset, .unset] [(.int m29), (.int m11), (.int m19), (.long v6_1), (.int m31), (.int m6), (.int v8_2), (.int ((16 : Int32) - v9_3)), (.int (16 : Int32)), (.ref b37)] := Own.iload r at_690 rfl
  obtain ⟨rv150, h151, hQ152, r⟩ := Own.callS [(.int ((16 : Int32) - v9_3)), (.int v8_2), (.int m6), (.int m31), (.long v6_1), (.int m19), (.int m11), (.int m29)] r at_692 (c1 l Z a0 hw n0 h149 Zs ((16 : Int32) - v9_3) v8_2 m6 m31 v6_1 m19 m11 m29 hA hj) (hw _ (List.mem_of_getElem? (i := 3) rfl)) (hw _ (List.mem_of_getElem? (i := 4) rfl)) (hw _ (List.mem_of_getElem? (i := 5) rfl)) (hw _ (List.mem_of_getElem? (i := 6) rfl)) (lenOf pd_0_0 rfl) rfl rfl (W := 2) (Nat.le_of_eq rfl) rfl (by decide) (by decide) (by decide) (by decide) (by decide)
  obtain ⟨K153, y154, rfl, e_y154⟩ := hQ152
  replace V_b37 := V_b37.keep K153 (by simp)
  replace Zs := Nat.le_trans Zs K153.1
  replace r : A0 l Z n0 D h151 18 345 695 #[.val (.long dg), .second, .val (.int sh), .val (.int pt), .val (.int ps), .val (.int ij_), .val (.long v6_1), .second, .val (.int v8_2), .val (.int v9_3), .val (.int m4), .val (.int m6), .val (.int v12_9), .val (.int v13_10), .val (.int m11), .val (.int v15_13), .val (.int m14), .val (.int m19), .val (.int m29), .val (.int m31), .val (.int m33), .val (.int m35), .val (.ref b37), .unset, .unset, .unset, .unset] [(.int y154), (.int (16 : Int32)), (.ref b37)] := r
  obtain ⟨h156, ⟨W155, V_b37⟩, r⟩ := Own.bastore r at_695 V_b37 (by decide) (Nat.le_of_ble_eq_true rfl) ge_b37
  replace r : A0 l Z n0 D h156 18 345 696 #[.val (.long dg), .second, .val (.int sh), .val (.int pt), .val (.int ps), .val (.int ij_), .val (.long v6_1), .second, .val (.int v8_2), .val (.int v9_3), .val (.int m4), .val (.int m6), .val (.int v12_9), .val (.int v13_10), .val (.int m11), .val (.int v15_13), .val (.int m14), .val (.int m19), .val (.int m29), .val (.int m31), .val (.int m33), .val (.int m35), .val (.ref b37), .unset, .unset, .unset, .unset] [] := r
  replace Zs := Nat.le_trans Zs (Nat.le_of_eq W155.size.symm)
  replace V_b37 : Own.VA Z h156 b37 .byte [(.int (nar .byte y42)), (.int (nar .byte y49)), (.int (nar .byte y56)), (.int (nar .byte y63)), (.int (nar .byte y70)), (.int (nar .byte y77)), (.int (nar .byte y84)), (.int (nar .byte y91)), (.int (nar .byte y98)), (.int (nar .byte y105)), (.int (nar .byte y112)), (.int (nar .byte y119)), (.int (nar .byte y126)), (.int (nar .byte y133)), (.int (nar .byte y140)), (.int (nar .byte y147)), (.int (nar .byte y154)), (.int (0 : Int32)), (.int (0 : Int32)), (.int (0 : Int32)), (.int (0 : Int32)), (.int (0 : Int32))] := V_b37
  replace r : A0 l Z n0 D h156 18 345 698 #[.val (.long dg), .second, .val (.int sh), .val (.int pt), .val (.int ps), .val (.int ij_), .val (.long v6_1), .second, .val (.int v8_2), .val (.int v9_3), .val (.int m4), .val (.int m6), .val (.int v12_9), .val (.int v13_10), .val (.int m11), .val (.int v15_13), .val (.int m14), .val (.int m19), .val (.int m29), .val (.int m31), .val (.int m33), .val (.int m35), .val (.ref b37), .unset, .unset, .unset, .unset] [(.ref b37)] := Own.aload r at_696 rfl rfl
  replace r : A0 l Z n0 D h156 18 345 700 #[.val (.long dg), .second, .val (.int sh), .val (.int pt), .val (.int ps), .val (.int ij_), .val (.long v6_1), .second, .val (.int v8_2), .val (.int v9_3), .val (.int m4), .val (.int m6), .val (.int v12_9), .val (.int v13_10), .val (.int m11), .val (.int v15_13), .val (.int m14), .val (.int m19), .val (.int m29), .val (.int m31), .val (.int m33), .val (.int m35), .val (.ref b37), .unset, .unset, .unset, .unset] [(.int (17 : Int32)), (.ref b37)] := Own.bipush r at_698 rfl
  replace r : A0 l Z n0 D h156 18 345 702 #[.val (.long dg), .second, .val (.int sh), .val (.int pt), .val (.int ps), .val (.int ij_), .val (.long v6_1), .second, .val (.int v8_2), .val (.int v9_3), .val (.int m4), .val (.int m6), .val (.int v12_9), .val (.int v13_10), .val (.int m11), .val (.int v15_13), .val (.int m14), .val (.int m19), .val (.int m29), .val (.int m31), .val (.int m33), .val (.int m35), .val (.ref b37), .unset, .unset, .unset, .unset] [(.int (17 : Int32)), (.int (17 : Int32)), (.ref b37)] := Own.bipush r at_700 rfl
  replace r : A0 l Z n0 D h156 18 345 704 #[.val (.long dg), .second, .val (.int sh), .val (.int pt), .val (.int ps), .val (.int ij_), .val (.long v6_1), .second, .val (.int v8_2), .val (.int v9_3), .val (.int m4), .val (.int m6), .val (.int v12_9), .val (.int v13_10), .val (.int m11), .val (.int v15_13), .val (.int m14), .val (.int m19), .val (.int m29), .val (.int m31), .val (.int m33), .val (.int m35), .val (.ref b37), .unset, .unset, .unset, .unset] [(.int v9_3), (.int (17 : Int32)), (.int (17 : Int32)), (.ref b37)] := Own.iload r at_702 rfl
  replace r : A0 l Z n0 D h156 18 345 705 #[.val (.long dg), .second, .val (.int sh), .val (.int pt), .val (.int ps), .val (.int ij_), .val (.long v6_1), .second, .val (.int v8_2), .val (.int v9_3), .val (.int m4), .val (.int m6), .val (.int v12_9), .val (.int v13_10), .val (.int m11), .val (.int v15_13), .val (.int m14), .val (.int m19), .val (.int m29), .val (.int m31), .val (.int m33), .val (.int m35), .val (.ref b37), .unset, .unset, .unset, .unset] [(.int ((17 : Int32) - v9_3)), (.int (17 : Int32)), (.ref b37)] := Own.isub r at_704
  replace r : A0 l Z n0 D h156 18 345 707 #[.val (.long dg), .second, .val (.int sh), .val (.int pt), .val (.int ps), .val (.int ij_), .val (.long v6_1), .second, .val (.int v8_2), .val (.int v9_3), .val (.int m4), .val (.int m6), .val (.int v12_9), .val (.int v13_10), .val (.int m11), .val (.int v15_13), .val (.int m14), .val (.int m19), .val (.int m29), .val (.int m31), .val (.int m33), .val (.int m35), .val (.ref b37), .unset, .unset, .unset, .unset] [(.int v8_2), (.int ((17 : Int32) - v9_3)), (.int (17 : Int32)), (.ref b37)] := Own.iload r at_705 rfl
  replace r : A0 l Z n0 D h156 18 345 709 #[.val (.long dg), .second, .val (.int sh), .val (.int pt), .val (.int ps), .val (.int ij_), .val (.long v6_1), .second, .val (.int v8_2), .val (.int v9_3), .val (.int m4), .val (.int m6), .val (.int v12_9), .val (.int v13_10), .val (.int m11), .val (.int v15_13), .val (.int m14), .val (.int m19), .val (.int m29), .val (.int m31), .val (.int m33), .val (.int m35), .val (.ref b37), .unset, .unset, .unset, .unset] [(.int m6), (.int v8_2), (.int ((17 : Int32) - v9_3)), (.int (17 : Int32)), (.ref b37)] := Own.iload r at_707 rfl
  replace r : A0 l Z n0 D h156 18 345 711 #[.val (.long dg), .second, .val (.int sh), .val (.int pt), .val (.int ps), .val (.int ij_), .val (.long v6_1), .second, .val (.int v8_2), .val (.int v9_3), .val (.int m4), .val (.int m6), .val (.int v12_9), .val (.int v13_10), .val (.int m11), .val (.int v15_13), .val (.int m14), .val (.int m19), .val (.int m29), .val (.int m31), .val (.int m33), .val (.int m35), .val (.ref b37), .unset, .unset, .unset, .unset] [(.int m31), (.int m6), (.int v8_2), (.int ((17 : Int32) - v9_3)), (.int (17 : Int32)), (.ref b37)] := Own.iload r at_709 rfl
  replace r : A0 l Z n0 D h156 18 345 713 #[.val (.long dg), .second, .val (.int sh), .val (.int pt), .val (.int ps), .val (.int ij_), .val (.long v6_1), .second, .val (.int v8_2), .val (.int v9_3), .val (.int m4), .val (.int m6), .val (.int v12_9), .val (.int v13_10), .val (.int m11), .val (.int v15_13), .val (.int m14), .val (.int m19), .val (.int m29), .val (.int m31), .val (.int m33), .val (.int m35), .val (.ref b37), .unset, .unset, .unset, .unset] [(.long v6_1), (.int m31), (.int m6), (.int v8_2), (.int ((17 : Int32) - v9_3)), (.int (17 : Int32)), (.ref b37)] := Own.lload r at_711 rfl
  replace r : A0 l Z n0 D h156 18 345 715 #[.val (.long dg), .second, .val (.int sh), .val (.int pt), .val (.int ps), .val (.int ij_), .val (.long v6_1), .second, .val (.int v8_2), .val (.int v9_3), .val (.int m4), .val (.int m6), .val (.int v12_9), .val (.int v13_10), .val (.int m11), .val (.int v15_13), .val (.int m14), .val (.int m19), .val (.int m29), .val (.int m31), .val (.int m33), .val (.int m35), .val (.ref b37), .unset, .unset, .unset, .unset] [(.int m19), (.long v6_1), (.int m31), (.int m6), (.int v8_2), (.int ((17 : Int32) - v9_3)), (.int (17 : Int32)), (.ref b37)] := Own.iload r at_713 rfl
  replace r : A0 l Z n0 D h156 18 345 717 #[.val (.long dg), .second, .val (.int sh), .val (.int pt), .val (.int ps), .val (.int ij_), .val (.long v6_1), .second, .val (.int v8_2), .val (.int v9_3), .val (.int m4), .val (.int m6), .val (.int v12_9), .val (.int v13_10), .val (.int m11), .val (.int v15_13), .val (.int m14), .val (.int m19), .val (.int m29), .val (.int m31), .val (.int m33), .val (.int m35), .val (.ref b37), .unset, .unset, .unset, .unset] [(.int m11), (.int m19), (.long v6_1), (.int m31), (.int m6), (.int v8_2), (.int ((17 : Int32) - v9_3)), (.int (17 : Int32)), (.ref b37)] := Own.iload r at_715 rfl
  replace r : A0 l Z n0 D h156 18 345 719 #[.val (.long dg), .second, .val (.int sh), .val (.int pt), .val (.int ps), .val (.int ij_), .val (.long v6_1), .second, .val (.int v8_2), .val (.int v9_3), .val (.int m4), .val (.int m6), .val (.int v12_9), .val (.int v13_10), .val (.int m11), .val (.int v15_13), .val (.int m14), .val (.int m19), .val (.int m29), .val (.int m31), .val (.int m33), .val (.int m35), .val (.ref b37), .unset, .unset, .unset, .unset] [(.int m29), (.int m11), (.int m19), (.long v6_1), (.int m31), (.int m6), (.int v8_2), (.int ((17 : Int32) - v9_3)), (.int (17 : Int32)), (.ref b37)] := Own.iload r at_717 rfl
  obtain ⟨rv157, h158, hQ159, r⟩ := Own.callS [(.int ((17 : Int32) - v9_3)), (.int v8_2), (.int m6), (.int m31), (.long v6_1), (.int m19), (.int m11), (.int m29)] r at_719 (c1 l Z a0 hw n0 h156 Zs ((17 : Int32) - v9_3) v8_2 m6 m31 v6_1 m19 m11 m29 hA hj) (hw _ (List.mem_of_getElem? (i := 3) rfl)) (hw _ (List.mem_of_getElem? (i := 4) rfl)) (hw _ (List.mem_of_getElem? (i := 5) rfl)) (hw _ (List.mem_of_getElem? (i := 6) rfl)) (lenOf pd_0_0 rfl) rfl rfl (W := 2) (Nat.le_of_eq rfl) rfl (by decide) (by decide) (by decide) (by decide) (by decide)
  obtain ⟨K160, y161, rfl, e_y161⟩ := hQ159
  replace V_b37 := V_b37.keep K160 (by simp)
  replace Zs := Nat.le_trans Zs K160.1
  replace r : A0 l Z n0 D h158 19 364 722 #[.val (.long dg), .second, .val (.int sh), .val (.int pt), .val (.int ps), .val (.int ij_), .val (.long v6_1), .second, .val (.int v8_2), .val (.int v9_3), .val (.int m4), .val (.int m6), .val (.int v12_9), .val (.int v13_10), .val (.int m11), .val (.int v15_13), .val (.int m14), .val (.int m19), .val (.int m29), .val (.int m31), .val (.int m33), .val (.int m35), .val (.ref b37), .unset, .unset, .unset, .unset] [(.int y161), (.int (17 : Int32)), (.ref b37)] := r
  obtain ⟨h163, ⟨W162, V_b37⟩, r⟩ := Own.bastore r at_722 V_b37 (by decide) (Nat.le_of_ble_eq_true rfl) ge_b37
  replace r : A0 l Z n0 D h163 19 364 723 #[.val (.long dg), .second, .val (.int sh), .val (.int pt), .val (.int ps), .val (.int ij_), .val (.long v6_1), .second, .val (.int v8_2), .val (.int v9_3), .val (.int m4), .val (.int m6), .val (.int v12_9), .val (.int v13_10), .val (.int m11), .val (.int v15_13), .val (.int m14), .val (.int m19), .val (.int m29), .val (.int m31), .val (.int m33), .val (.int m35), .val (.ref b37), .unset, .unset, .unset, .unset] [] := r
  replace Zs := Nat.le_trans Zs (Nat.le_of_eq W162.size.symm)
  replace V_b37 : Own.VA Z h163 b37 .byte [(.int (nar .byte y42)), (.int (nar .byte y49)), (.int (nar .byte y56)), (.int (nar .byte y63)), (.int (nar .byte y70)), (.int (nar .byte y77)), (.int (nar .byte y84)), (.int (nar .byte y91)), (.int (nar .byte y98)), (.int (nar .byte y105)), (.int (nar .byte y112)), (.int (nar .byte y119)), (.int (nar .byte y126)), (.int (nar .byte y133)), (.int (nar .byte y140)), (.int (nar .byte y147)), (.int (nar .byte y154)), (.int (nar .byte y161)), (.int (0 : Int32)), (.int (0 : Int32)), (.int (0 : Int32)), (.int (0 : Int32))] := V_b37
  replace r : A0 l Z n0 D h163 19 364 725 #[.val (.long dg), .second, .val (.int sh), .val (.int pt), .val (.int ps), .val (.int ij_), .val (.long v6_1), .second, .val (.int v8_2), .val (.int v9_3), .val (.int m4), .val (.int m6), .val (.int v12_9), .val (.int v13_10), .val (.int m11), .val (.int v15_13), .val (.int m14), .val (.int m19), .val (.int m29), .val (.int m31), .val (.int m33), .val (.int m35), .val (.ref b37), .unset, .unset, .unset, .unset] [(.ref b37)] := Own.aload r at_723 rfl rfl
  replace r : A0 l Z n0 D h163 19 364 727 #[.val (.long dg), .second, .val (.int sh), .val (.int pt), .val (.int ps), .val (.int ij_), .val (.long v6_1), .second, .val (.int v8_2), .val (.int v9_3), .val (.int m4), .val (.int m6), .val (.int v12_9), .val (.int v13_10), .val (.int m11), .val (.int v15_13), .val (.int m14), .val (.int m19), .val (.int m29), .val (.int m31), .val (.int m33), .val (.int m35), .val (.ref b37), .unset, .unset, .unset, .unset] [(.int (18 : Int32)), (.ref b37)] := Own.bipush r at_725 rfl
  replace r : A0 l Z n0 D h163 19 364 729 #[.val (.long dg), .second, .val (.int sh), .val (.int pt), .val (.int ps), .val (.int ij_), .val (.long v6_1), .second, .val (.int v8_2), .val (.int v9_3), .val (.int m4), .val (.int m6), .val (.int v12_9), .val (.int v13_10), .val (.int m11), .val (.int v15_13), .val (.int m14), .val (.int m19), .val (.int m29), .val (.int m31), .val (.int m33), .val (.int m35), .val (.ref b37), .unset, .unset, .unset, .unset] [(.int (18 : Int32)), (.int (18 : Int32)), (.ref b37)] := Own.bipush r at_727 rfl
  replace r : A0 l Z n0 D h163 19 364 731 #[.val (.long dg), .second, .val (.int sh), .val (.int pt), .val (.int ps), .val (.int ij_), .val (.long v6_1), .second, .val (.int v8_2), .val (.int v9_3), .val (.int m4), .val (.int m6), .val (.int v12_9), .val (.int v13_10), .val (.int m11), .val (.int v15_13), .val (.int m14), .val (.int m19), .val (.int m29), .val (.int m31), .val (.int m33), .val (.int m35), .val (.ref b37), .unset, .unset, .unset, .unset] [(.int v9_3), (.int (18 : Int32)), (.int (18 : Int32)), (.ref b37)] := Own.iload r at_729 rfl
  replace r : A0 l Z n0 D h163 19 364 732 #[.val (.long dg), .second, .val (.int sh), .val (.int pt), .val (.int ps), .val (.int ij_), .val (.long v6_1), .second, .val (.int v8_2), .val (.int v9_3), .val (.int m4), .val (.int m6), .val (.int v12_9), .val (.int v13_10), .val (.int m11), .val (.int v15_13), .val (.int m14), .val (.int m19), .val (.int m29), .val (.int m31), .val (.int m33), .val (.int m35), .val (.ref b37), .unset, .unset, .unset, .unset] [(.int ((18 : Int32) - v9_3)), (.int (18 : Int32)), (.ref b37)] := Own.isub r at_731
  replace r : A0 l Z n0 D h163 19 364 734 #[.val (.long dg), .second, .val (.int sh), .val (.int pt), .val (.int ps), .val (.int ij_), .val (.long v6_1), .second, .val (.int v8_2), .val (.int v9_3), .val (.int m4), .val (.int m6), .val (.int v12_9), .val (.int v13_10), .val (.int m11), .val (.int v15_13), .val (.int m14), .val (.int m19), .val (.int m29), .val (.int m31), .val (.int m33), .val (.int m35), .val (.ref b37), .unset, .unset, .unset, .unset] [(.int v8_2), (.int ((18 : Int32) - v9_3)), (.int (18 : Int32)), (.ref b37)] := Own.iload r at_732 rfl
  replace r : A0 l Z n0 D h163 19 364 736 #[.val (.long dg), .second, .val (.int sh), .val (.int pt), .val (.int ps), .val (.int ij_), .val (.long v6_1), .second, .val (.int v8_2), .val (.int v9_3), .val (.int m4), .val (.int m6), .val (.int v12_9), .val (.int v13_10), .val (.int m11), .val (.int v15_13), .val (.int m14), .val (.int m19), .val (.int m29), .val (.int m31), .val (.int m33), .val (.int m35), .val (.ref b37), .unset, .unset, .unset, .unset] [(.int m6), (.int v8_2), (.int ((18 : Int32) - v9_3)), (.int (18 : Int32)), (.ref b37)] := Own.iload r at_734 rfl
  replace r : A0 l Z n0 D h163 19 364 738 #[.val (.long dg), .second, .val (.int sh), .val (.int pt), .val (.int ps), .val (.int ij_), .val (.long v6_1), .second, .val (.int v8_2), .val (.int v9_3), .val (.int m4), .val (.int m6), .val (.int v12_9), .val (.int v13_10), .val (.int m11), .val (.int v15_13), .val (.int m14), .val (.int m19), .val (.int m29), .val (.int m31), .val (.int m33), .val (.int m35), .val (.ref b37), .unset, .unset, .unset, .unset] [(.int m31), (.int m6), (.int v8_2), (.int ((18 : Int32) - v9_3)), (.int (18 : Int32)), (.ref b37)] := Own.iload r at_736 rfl
  replace r : A0 l Z n0 D h163 19 364 740 #[.val (.long dg), .second, .val (.int sh), .val (.int pt), .val (.int ps), .val (.int ij_), .val (.long v6_1), .second, .val (.int v8_2), .val (.int v9_3), .val (.int m4), .val (.int m6), .val (.int v12_9), .val (.int v13_10), .val (.int m11), .val (.int v15_13), .val (.int m14), .val (.int m19), .val (.int m29), .val (.int m31), .val (.int m33), .val (.int m35), .val (.ref b37), .unset, .unset, .unset, .unset] [(.long v6_1), (.int m31), (.int m6), (.int v8_2), (.int ((18 : Int32) - v9_3)), (.int (18 : Int32)), (.ref b37)] := Own.lload r at_738 rfl
  replace r : A0 l Z n0 D h163 19 364 742 #[.val (.long dg), .second, .val (.int sh), .val (.int pt), .val (.int ps), .val (.int ij_), .val (.long v6_1), .second, .val (.int v8_2), .val (.int v9_3), .val (.int m4), .val (.int m6), .val (.int v12_9), .val (.int v13_10), .val (.int m11), .val (.int v15_13), .val (.int m14), .val (.int m19), .val (.int m29), .val (.int m31), .val (.int m33), .val (.int m35), .val (.ref b37), .unset, .unset, .unset, .unset] [(.int m19), (.long v6_1), (.int m31), (.int m6), (.int v8_2), (.int ((18 : Int32) - v9_3)), (.int (18 : Int32)), (.ref b37)] := Own.iload r at_740 rfl
  replace r : A0 l Z n0 D h163 19 364 744 #[.val (.long dg), .second, .val (.int sh), .val (.int pt), .val (.int ps), .val (.int ij_), .val (.long v6_1), .second, .val (.int v8_2), .val (.int v9_3), .val (.int m4), .val (.int m6), .val (.int v12_9), .val (.int v13_10), .val (.int m11), .val (.int v15_13), .val (.int m14), .val (.int m19), .val (.int m29), .val (.int m31), .val (.int m33), .val (.int m35), .val (.ref b37), .unset, .unset, .unset, .unset] [(.int m11), (.int m19), (.long v6_1), (.int m31), (.int m6), (.int v8_2), (.int ((18 : Int32) - v9_3)), (.int (18 : Int32)), (.ref b37)] := Own.iload r at_742 rfl
  replace r : A0 l Z n0 D h163 19 364 746 #[.val (.long dg), .second, .val (.int sh), .val (.int pt), .val (.int ps), .val (.int ij_), .val (.long v6_1), .second, .val (.int v8_2), .val (.int v9_3), .val (.int m4), .val (.int m6), .val (.int v12_9), .val (.int v13_10), .val (.int m11), .val (.int v15_13), .val (.int m14), .val (.int m19), .val (.int m29), .val (.int m31), .val (.int m33), .val (.int m35), .val (.ref b37), .unset, .unset, .unset, .unset] [(.int m29), (.int m11), (.int m19), (.long v6_1), (.int m31), (.int m6), (.int v8_2), (.int ((18 : Int32) - v9_3)), (.int (18 : Int32)), (.ref b37)] := Own.iload r at_744 rfl
  obtain ⟨rv164, h165, hQ166, r⟩ := Own.callS [(.int ((18 : Int32) - v9_3)), (.int v8_2), (.int m6), (.int m31), (.long v6_1), (.int m19), (.int m11), (.int m29)] r at_746 (c1 l Z a0 hw n0 h163 Zs ((18 : Int32) - v9_3) v8_2 m6 m31 v6_1 m19 m11 m29 hA hj) (hw _ (List.mem_of_getElem? (i := 3) rfl)) (hw _ (List.mem_of_getElem? (i := 4) rfl)) (hw _ (List.mem_of_getElem? (i := 5) rfl)) (hw _ (List.mem_of_getElem? (i := 6) rfl)) (lenOf pd_0_0 rfl) rfl rfl (W := 2) (Nat.le_of_eq rfl) rfl (by decide) (by decide) (by decide) (by decide) (by decide)
  obtain ⟨K167, y168, rfl, e_y168⟩ := hQ166
  replace V_b37 := V_b37.keep K167 (by simp)
  replace Zs := Nat.le_trans Zs K167.1
  replace r : A0 l Z n0 D h165 20 383 749 #[.val (.long dg), .second, .val (.int sh), .val (.int pt), .val (.int ps), .val (.int ij_), .val (.long v6_1), .second, .val (.int v8_2), .val (.int v9_3), .val (.int m4), .val (.int m6), .val (.int v12_9), .val (.int v13_10), .val (.int m11), .val (.int v15_13), .val (.int m14), .val (.int m19), .val (.int m29), .val (.int m31), .val (.int m33), .val (.int m35), .val (.ref b37), .unset, .unset, .unset, .unset] [(.int y168), (.int (18 : Int32)), (.ref b37)] := r
  obtain ⟨h170, ⟨W169, V_b37⟩, r⟩ := Own.bastore r at_749 V_b37 (by decide) (Nat.le_of_ble_eq_true rfl) ge_b37
  replace r : A0 l Z n0 D h170 20 383 750 #[.val (.long dg), .second, .val (.int sh), .val (.int pt), .val (.int ps), .val (.int ij_), .val (.long v6_1), .second, .val (.int v8_2), .val (.int v9_3), .val (.int m4), .val (.int m6), .val (.int v12_9), .val (.int v13_10), .val (.int m11), .val (.int v15_13), .val (.int m14), .val (.int m19), .val (.int m29), .val (.int m31), .val (.int m33), .val (.int m35), .val (.ref b37), .unset, .unset, .unset, .unset] [] := r
  replace Zs := Nat.le_trans Zs (Nat.le_of_eq W169.size.symm)
  replace V_b37 : Own.VA Z h170 b37 .byte [(.int (nar .byte y42)), (.int (nar .byte y49)), (.int (nar .byte y56)), (.int (nar .byte y63)), (.int (nar .byte y70)), (.int (nar .byte y77)), (.int (nar .byte y84)), (.int (nar .byte y91)), (.int (nar .byte y98)), (.int (nar .byte y105)), (.int (nar .byte y112)), (.int (nar .byte y119)), (.int (nar .byte y126)), (.int (nar .byte y133)), (.int (nar .byte y140)), (.int (nar .byte y147)), (.int (nar .byte y154)), (.int (nar .byte y161)), (.int (nar .byte y168)), (.int (0 : Int32)), (.int (0 : Int32)), (.int (0 : Int32))] := V_b37
  replace r : A0 l Z n0 D h170 20 383 752 #[.val (.long dg), .second, .val (.int sh), .val (.int pt), .val (.int ps), .val (.int ij_), .val (.long v6_1), .second, .val (.int v8_2), .val (.int v9_3), .val (.int m4), .val (.int m6), .val (.int v12_9), .val (.int v13_10), .val (.int m11), .val (.int v15_13), .val (.int m14), .val (.int m19), .val (.int m29), .val (.int m31), .val (.int m33), .val (.int m35), .val (.ref b37), .unset, .unset, .unset, .unset] [(.ref b37)] := Own.aload r at_750 rfl rfl
  replace r : A0 l Z n0 D h170 20 383 754 #[.val (.long dg), .second, .val (.int sh), .val (.int pt), .val (.int ps), .val (.int ij_), .val (.long v6_1), .second, .val (.int v8_2), .val (.int v9_3), .val (.int m4), .val (.int m6), .val (.int v12_9), .val (.int v13_10), .val (.int m11), .val (.int v15_13), .val (.int m14), .val (.int m19), .val (.int m29), .val (.int m31), .val (.int m33), .val (.int m35), .val (.ref b37), .unset, .unset, .unset, .unset] [(.int (19 : Int32)), (.ref b37)] := Own.bipush r at_752 rfl
  replace r : A0 l Z n0 D h170 20 383 756 #[.val (.long dg), .second, .val (.int sh), .val (.int pt), .val (.int ps), .val (.int ij_), .val (.long v6_1), .second, .val (.int v8_2), .val (.int v9_3), .val (.int m4), .val (.int m6), .val (.int v12_9), .val (.int v13_10), .val (.int m11), .val (.int v15_13), .val (.int m14), .val (.int m19), .val (.int m29), .val (.int m31), .val (.int m33), .val (.int m35), .val (.ref b37), .unset, .unset, .unset, .unset] [(.int (19 : Int32)), (.int (19 : Int32)), (.ref b37)] := Own.bipush r at_754 rfl
  replace r : A0 l Z n0 D h170 20 383 758 #[.val (.long dg), .second, .val (.int sh), .val (.int pt), .val (.int ps), .val (.int ij_), .val (.long v6_1), .second, .val (.int v8_2), .val (.int v9_3), .val (.int m4), .val (.int m6), .val (.int v12_9), .val (.int v13_10), .val (.int m11), .val (.int v15_13), .val (.int m14), .val (.int m19), .val (.int m29), .val (.int m31), .val (.int m33), .val (.int m35), .val (.ref b37), .unset, .unset, .unset, .unset] [(.int v9_3), (.int (19 : Int32)), (.int (19 : Int32)), (.ref b37)] := Own.iload r at_756 rfl
  replace r : A0 l Z n0 D h170 20 383 759 #[.val (.long dg), .second, .val (.int sh), .val (.int pt), .val (.int ps), .val (.int ij_), .val (.long v6_1), .second, .val (.int v8_2), .val (.int v9_3), .val (.int m4), .val (.int m6), .val (.int v12_9), .val (.int v13_10), .val (.int m11), .val (.int v15_13), .val (.int m14), .val (.int m19), .val (.int m29), .val (.int m31), .val (.int m33), .val (.int m35), .val (.ref b37), .unset, .unset, .unset, .unset] [(.int ((19 : Int32) - v9_3)), (.int (19 : Int32)), (.ref b37)] := Own.isub r at_758
  replace r : A0 l Z n0 D h170 20 383 761 #[.val (.long dg), .second, .val (.int sh), .val (.int pt), .val (.int ps), .val (.int ij_), .val (.long v6_1), .second, .val (.int v8_2), .val (.int v9_3), .val (.int m4), .val (.int m6), .val (.int v12_9), .val (.int v13_10), .val (.int m11), .val (.int v15_13), .val (.int m14), .val (.int m19), .val (.int m29), .val (.int m31), .val (.int m33), .val (.int m35), .val (.ref b37), .unset, .unset, .unset, .unset] [(.int v8_2), (.int ((19 : Int32) - v9_3)), (.int (19 : Int32)), (.ref b37)] := Own.iload r at_759 rfl
  replace r : A0 l Z n0 D h170 20 383 763 #[.val (.long dg), .second, .val (.int sh), .val (.int pt), .val (.int ps), .val (.int ij_), .val (.long v6_1), .second, .val (.int v8_2), .val (.int v9_3), .val (.int m4), .val (.int m6), .val (.int v12_9), .val (.int v13_10), .val (.int m11), .val (.int v15_13), .val (.int m14), .val (.int m19), .val (.int m29), .val (.int m31), .val (.int m33), .val (.int m35), .val (.ref b37), .unset, .unset, .unset, .unset] [(.int m6), (.int v8_2), (.int ((19 : Int32) - v9_3)), (.int (19 : Int32)), (.ref b37)] := Own.iload r at_761 rfl
  replace r : A0 l Z n0 D h170 20 383 765 #[.val (.long dg), .second, .val (.int sh), .val (.int pt), .val (.int ps), .val (.int ij_), .val (.long v6_1), .second, .val (.int v8_2), .val (.int v9_3), .val (.int m4), .val (.int m6), .val (.int v12_9), .val (.int v13_10), .val (.int m11), .val (.int v15_13), .val (.int m14), .val (.int m19), .val (.int m29), .val (.int m31), .val (.int m33), .val (.int m35), .val (.ref b37), .unset, .unset, .unset, .unset] [(.int m31), (.int m6), (.int v8_2), (.int ((19 : Int32) - v9_3)), (.int (19 : Int32)), (.ref b37)] := Own.iload r at_763 rfl
  replace r : A0 l Z n0 D h170 20 383 767 #[.val (.long dg), .second, .val (.int sh), .val (.int pt), .val (.int ps), .val (.int ij_), .val (.long v6_1), .second, .val (.int v8_2), .val (.int v9_3), .val (.int m4), .val (.int m6), .val (.int v12_9), .val (.int v13_10), .val (.int m11), .val (.int v15_13), .val (.int m14), .val (.int m19), .val (.int m29), .val (.int m31), .val (.int m33), .val (.int m35), .val (.ref b37), .unset, .unset, .unset, .unset] [(.long v6_1), (.int m31), (.int m6), (.int v8_2), (.int ((19 : Int32) - v9_3)), (.int (19 : Int32)), (.ref b37)] := Own.lload r at_765 rfl
  replace r : A0 l Z n0 D h170 20 383 769 #[.val (.long dg), .second, .val (.int sh), .val (.int pt), .val (.int ps), .val (.int ij_), .val (.long v6_1), .second, .val (.int v8_2), .val (.int v9_3), .val (.int m4), .val (.int m6), .val (.int v12_9), .val (.int v13_10), .val (.int m11), .val (.int v15_13), .val (.int m14), .val (.int m19), .val (.int m29), .val (.int m31), .val (.int m33), .val (.int m35), .val (.ref b37), .unset, .unset, .unset, .unset] [(.int m19), (.long v6_1), (.int m31), (.int m6), (.int v8_2), (.int ((19 : Int32) - v9_3)), (.int (19 : Int32)), (.ref b37)] := Own.iload r at_767 rfl
  replace r : A0 l Z n0 D h170 20 383 771 #[.val (.long dg), .second, .val (.int sh), .val (.int pt), .val (.int ps), .val (.int ij_), .val (.long v6_1), .second, .val (.int v8_2), .val (.int v9_3), .val (.int m4), .val (.int m6), .val (.int v12_9), .val (.int v13_10), .val (.int m11), .val (.int v15_13), .val (.int m14), .val (.int m19), .val (.int m29), .val (.int m31), .val (.int m33), .val (.int m35), .val (.ref b37), .unset, .unset, .unset, .unset] [(.int m11), (.int m19), (.long v6_1), (.int m31), (.int m6), (.int v8_2), (.int ((19 : Int32) - v9_3)), (.int (19 : Int32)), (.ref b37)] := Own.iload r at_769 rfl
  replace r : A0 l Z n0 D h170 20 383 773 #[.val (.long dg), .second, .val (.int sh), .val (.int pt), .val (.int ps), .val (.int ij_), .val (.long v6_1), .second, .val (.int v8_2), .val (.int v9_3), .val (.int m4), .val (.int m6), .val (.int v12_9), .val (.int v13_10), .val (.int m11), .val (.int v15_13), .val (.int m14), .val (.int m19), .val (.int m29), .val (.int m31), .val (.int m33), .val (.int m35), .val (.ref b37), .unset, .unset, .unset, .unset] [(.int m29), (.int m11), (.int m19), (.long v6_1), (.int m31), (.int m6), (.int v8_2), (.int ((19 : Int32) - v9_3)), (.int (19 : Int32)), (.ref b37)] := Own.iload r at_771 rfl
  obtain ⟨rv171, h172, hQ173, r⟩ := Own.callS [(.int ((19 : Int32) - v9_3)), (.int v8_2), (.int m6), (.int m31), (.long v6_1), (.int m19), (.int m11), (.int m29)] r at_773 (c1 l Z a0 hw n0 h170 Zs ((19 : Int32) - v9_3) v8_2 m6 m31 v6_1 m19 m11 m29 hA hj) (hw _ (List.mem_of_getElem? (i := 3) rfl)) (hw _ (List.mem_of_getElem? (i := 4) rfl)) (hw _ (List.mem_of_getElem? (i := 5) rfl)) (hw _ (List.mem_of_getElem? (i := 6) rfl)) (lenOf pd_0_0 rfl) rfl rfl (W := 2) (Nat.le_of_eq rfl) rfl (by decide) (by decide) (by decide) (by decide) (by decide)
  obtain ⟨K174, y175, rfl, e_y175⟩ := hQ173
  replace V_b37 := V_b37.keep K174 (by simp)
  replace Zs := Nat.le_trans Zs K174.1
  replace r : A0 l Z n0 D h172 21 402 776 #[.val (.long dg), .second, .val (.int sh), .val (.int pt), .val (.int ps), .val (.int ij_), .val (.long v6_1), .second, .val (.int v8_2), .val (.int v9_3), .val (.int m4), .val (.int m6), .val (.int v12_9), .val (.int v13_10), .val (.int m11), .val (.int v15_13), .val (.int m14), .val (.int m19), .val (.int m29), .val (.int m31), .val (.int m33), .val (.int m35), .val (.ref b37), .unset, .unset, .unset, .unset] [(.int y175), (.int (19 : Int32)), (.ref b37)] := r
  obtain ⟨h177, ⟨W176, V_b37⟩, r⟩ := Own.bastore r at_776 V_b37 (by decide) (Nat.le_of_ble_eq_true rfl) ge_b37
  replace r : A0 l Z n0 D h177 21 402 777 #[.val (.long dg), .second, .val (.int sh), .val (.int pt), .val (.int ps), .val (.int ij_), .val (.long v6_1), .second, .val (.int v8_2), .val (.int v9_3), .val (.int m4), .val (.int m6), .val (.int v12_9), .val (.int v13_10), .val (.int m11), .val (.int v15_13), .val (.int m14), .val (.int m19), .val (.int m29), .val (.int m31), .val (.int m33), .val (.int m35), .val (.ref b37), .unset, .unset, .unset, .unset] [] := r
  replace Zs := Nat.le_trans Zs (Nat.le_of_eq W176.size.symm)
  replace V_b37 : Own.VA Z h177 b37 .byte [(.int (nar .byte y42)), (.int (nar .byte y49)), (.int (nar .byte y56)), (.int (nar .byte y63)), (.int (nar .byte y70)), (.int (nar .byte y77)), (.int (nar .byte y84)), (.int (nar .byte y91)), (.int (nar .byte y98)), (.int (nar .byte y105)), (.int (nar .byte y112)), (.int (nar .byte y119)), (.int (nar .byte y126)), (.int (nar .byte y133)), (.int (nar .byte y140)), (.int (nar .byte y147)), (.int (nar .byte y154)), (.int (nar .byte y161)), (.int (nar .byte y168)), (.int (nar .byte y175)), (.int (0 : Int32)), (.int (0 : Int32))] := V_b37
  replace r : A0 l Z n0 D h177 21 402 779 #[.val (.long dg), .second, .val (.int sh), .val (.int pt), .val (.int ps), .val (.int ij_), .val (.long v6_1), .second, .val (.int v8_2), .val (.int v9_3), .val (.int m4), .val (.int m6), .val (.int v12_9), .val (.int v13_10), .val (.int m11), .val (.int v15_13), .val (.int m14), .val (.int m19), .val (.int m29), .val (.int m31), .val (.int m33), .val (.int m35), .val (.ref b37), .unset, .unset, .unset, .unset] [(.ref b37)] := Own.aload r at_777 rfl rfl
  replace r : A0 l Z n0 D h177 21 402 781 #[.val (.long dg), .second, .val (.int sh), .val (.int pt), .val (.int ps), .val (.int ij_), .val (.long v6_1), .second, .val (.int v8_2), .val (.int v9_3), .val (.int m4), .val (.int m6), .val (.int v12_9), .val (.int v13_10), .val (.int m11), .val (.int v15_13), .val (.int m14), .val (.int m19), .val (.int m29), .val (.int m31), .val (.int m33), .val (.int m35), .val (.ref b37), .unset, .unset, .unset, .unset] [(.int (20 : Int32)), (.ref b37)] := Own.bipush r at_779 rfl
  replace r : A0 l Z n0 D h177 21 402 783 #[.val (.long dg), .second, .val (.int sh), .val (.int pt), .val (.int ps), .val (.int ij_), .val (.long v6_1), .second, .val (.int v8_2), .val (.int v9_3), .val (.int m4), .val (.int m6), .val (.int v12_9), .val (.int v13_10), .val (.int m11), .val (.int v15_13), .val (.int m14), .val (.int m19), .val (.int m29), .val (.int m31), .val (.int m33), .val (.int m35), .val (.ref b37), .unset, .unset, .unset, .unset] [(.int (20 : Int32)), (.int (20 : Int32)), (.ref b37)] := Own.bipush r at_781 rfl
  replace r : A0 l Z n0 D h177 21 402 785 #[.val (.long dg), .second, .val (.int sh), .val (.int pt), .val (.int ps), .val (.int ij_), .val (.long v6_1), .second, .val (.int v8_2), .val (.int v9_3), .val (.int m4), .val (.int m6), .val (.int v12_9), .val (.int v13_10), .val (.int m11), .val (.int v15_13), .val (.int m14), .val (.int m19), .val (.int m29), .val (.int m31), .val (.int m33), .val (.int m35), .val (.ref b37), .unset, .unset, .unset, .unset] [(.int v9_3), (.int (20 : Int32)), (.int (20 : Int32)), (.ref b37)] := Own.iload r at_783 rfl
  replace r : A0 l Z n0 D h177 21 402 786 #[.val (.long dg), .second, .val (.int sh), .val (.int pt), .val (.int ps), .val (.int ij_), .val (.long v6_1), .second, .val (.int v8_2), .val (.int v9_3), .val (.int m4), .val (.int m6), .val (.int v12_9), .val (.int v13_10), .val (.int m11), .val (.int v15_13), .val (.int m14), .val (.int m19), .val (.int m29), .val (.int m31), .val (.int m33), .val (.int m35), .val (.ref b37), .unset, .unset, .unset, .unset] [(.int ((20 : Int32) - v9_3)), (.int (20 : Int32)), (.ref b37)] := Own.isub r at_785
  replace r : A0 l Z n0 D h177 21 402 788 #[.val (.long dg), .second, .val (.int sh), .val (.int pt), .val (.int ps), .val (.int ij_), .val (.long v6_1), .second, .val (.int v8_2), .val (.int v9_3), .val (.int m4), .val (.int m6), .val (.int v12_9), .val (.int v13_10), .val (.int m11), .val (.int v15_13), .val (.int m14), .val (.int m19), .val (.int m29), .val (.int m31), .val (.int m33), .val (.int m35), .val (.ref b37), .unset, .unset, .unset, .unset] [(.int v8_2), (.int ((20 : Int32) - v9_3)), (.int (20 : Int32)), (.ref b37)] := Own.iload r at_786 rfl
  replace r : A0 l Z n0 D h177 21 402 790 #[.val (.long dg), .second, .val (.int sh), .val (.int pt), .val (.int ps), .val (.int ij_), .val (.long v6_1), .second, .val (.int v8_2), .val (.int v9_3), .val (.int m4), .val (.int m6), .val (.int v12_9), .val (.int v13_10), .val (.int m11), .val (.int v15_13), .val (.int m14), .val (.int m19), .val (.int m29), .val (.int m31), .val (.int m33), .val (.int m35), .val (.ref b37), .unset, .unset, .unset, .unset] [(.int m6), (.int v8_2), (.int ((20 : Int32) - v9_3)), (.int (20 : Int32)), (.ref b37)] := Own.iload r at_788 rfl
  replace r : A0 l Z n0 D h177 21 402 792 #[.val (.long dg), .second, .val (.int sh), .val (.int pt), .val (.int ps), .val (.int ij_), .val (.long v6_1), .second, .val (.int v8_2), .val (.int v9_3), .val (.int m4), .val (.int m6), .val (.int v12_9), .val (.int v13_10), .val (.int m11), .val (.int v15_13), .val (.int m14), .val (.int m19), .val (.int m29), .val (.int m31), .val (.int m33), .val (.int m35), .val (.ref b37), .unset, .unset, .unset, .unset] [(.int m31), (.int m6), (.int v8_2), (.int ((20 : Int32) - v9_3)), (.int (20 : Int32)), (.ref b37)] := Own.iload r at_790 rfl
  replace r : A0 l Z n0 D h177 21 402 794 #[.val (.long dg), .second, .val (.int sh), .val (.int pt), .val (.int ps), .val (.int ij_), .val (.long v6_1), .second, .val (.int v8_2), .val (.int v9_3), .val (.int m4), .val (.int m6), .val (.int v12_9), .val (.int v13_10), .val (.int m11), .val (.int v15_13), .val (.int m14), .val (.int m19), .val (.int m29), .val (.int m31), .val (.int m33), .val (.int m35), .val (.ref b37), .unset, .unset, .unset, .unset] [(.long v6_1), (.int m31), (.int m6), (.int v8_2), (.int ((20 : Int32) - v9_3)), (.int (20 : Int32)), (.ref b37)] := Own.lload r at_792 rfl
  replace r : A0 l Z n0 D h177 21 402 796 #[.val (.long dg), .second, .val (.int sh), .val (.int pt), .val (.int ps), .val (.int ij_), .val (.long v6_1), .second, .val (.int v8_2), .val (.int v9_3), .val (.int m4), .val (.int m6), .val (.int v12_9), .val (.int v13_10), .val (.int m11), .val (.int v15_13), .val (.int m14), .val (.int m19), .val (.int m29), .val (.int m31), .val (.int m33), .val (.int m35), .val (.ref b37), .unset, .unset, .unset, .unset] [(.int m19), (.long v6_1), (.int m31), (.int m6), (.int v8_2), (.int ((20 : Int32) - v9_3)), (.int (20 : Int32)), (.ref b37)] := Own.iload r at_794 rfl
  replace r : A0 l Z n0 D h177 21 402 798 #[.val (.long dg), .second, .val (.int sh), .val (.int pt), .val (.int ps), .val (.int ij_), .val (.long v6_1), .second, .val (.int v8_2), .val (.int v9_3), .val (.int m4), .val (.int m6), .val (.int v12_9), .val (.int v13_10), .val (.int m11), .val (.int v15_13), .val (.int m14), .val (.int m19), .val (.int m29), .val (.int m31), .val (.int m33), .val (.int m35), .val (.ref b37), .unset, .unset, .unset, .unset] [(.int m11), (.int m19), (.long v6_1), (.int m31), (.int m6), (.int v8_2), (.int ((20 : Int32) - v9_3)), (.int (20 : Int32)), (.ref b37)] := Own.iload r at_796 rfl
  replace r : A0 l Z n0 D h177 21 402 800 #[.val (.long dg), .second, .val (.int sh), .val (.int pt), .val (.int ps), .val (.int ij_), .val (.long v6_1), .second, .val (.int v8_2), .val (.int v9_3), .val (.int m4), .val (.int m6), .val (.int v12_9), .val (.int v13_10), .val (.int m11), .val (.int v15_13), .val (.int m14), .val (.int m19), .val (.int m29), .val (.int m31), .val (.int m33), .val (.int m35), .val (.ref b37), .unset, .unset, .unset, .unset] [(.int m29), (.int m11), (.int m19), (.long v6_1), (.int m31), (.int m6), (.int v8_2), (.int ((20 : Int32) - v9_3)), (.int (20 : Int32)), (.ref b37)] := Own.iload r at_798 rfl
  obtain ⟨rv178, h179, hQ180, r⟩ := Own.callS [(.int ((20 : Int32) - v9_3)), (.int v8_2), (.int m6), (.int m31), (.long v6_1), (.int m19), (.int m11), (.int m29)] r at_800 (c1 l Z a0 hw n0 h177 Zs ((20 : Int32) - v9_3) v8_2 m6 m31 v6_1 m19 m11 m29 hA hj) (hw _ (List.mem_of_getElem? (i := 3) rfl)) (hw _ (List.mem_of_getElem? (i := 4) rfl)) (hw _ (List.mem_of_getElem? (i := 5) rfl)) (hw _ (List.mem_of_getElem? (i := 6) rfl)) (lenOf pd_0_0 rfl) rfl rfl (W := 2) (Nat.le_of_eq rfl) rfl (by decide) (by decide) (by decide) (by decide) (by decide)
  obtain ⟨K181, y182, rfl, e_y182⟩ := hQ180
  replace V_b37 := V_b37.keep K181 (by simp)
  replace Zs := Nat.le_trans Zs K181.1
  replace r : A0 l Z n0 D h179 22 421 803 #[.val (.long dg), .second, .val (.int sh), .val (.int pt), .val (.int ps), .val (.int ij_), .val (.long v6_1), .second, .val (.int v8_2), .val (.int v9_3), .val (.int m4), .val (.int m6), .val (.int v12_9), .val (.int v13_10), .val (.int m11), .val (.int v15_13), .val (.int m14), .val (.int m19), .val (.int m29), .val (.int m31), .val (.int m33), .val (.int m35), .val (.ref b37), .unset, .unset, .unset, .unset] [(.int y182), (.int (20 : Int32)), (.ref b37)] := r
  obtain ⟨h184, ⟨W183, V_b37⟩, r⟩ := Own.bastore r at_803 V_b37 (by decide) (Nat.le_of_ble_eq_true rfl) ge_b37
  replace r : A0 l Z n0 D h184 22 421 804 #[.val (.long dg), .second, .val (.int sh), .val (.int pt), .val (.int ps), .val (.int ij_), .val (.long v6_1), .second, .val (.int v8_2), .val (.int v9_3), .val (.int m4), .val (.int m6), .val (.int v12_9), .val (.int v13_10), .val (.int m11), .val (.int v15_13), .val (.int m14), .val (.int m19), .val (.int m29), .val (.int m31), .val (.int m33), .val (.int m35), .val (.ref b37), .unset, .unset, .unset, .unset] [] := r
  replace Zs := Nat.le_trans Zs (Nat.le_of_eq W183.size.symm)
  replace V_b37 : Own.VA Z h184 b37 .byte [(.int (nar .byte y42)), (.int (nar .byte y49)), (.int (nar .byte y56)), (.int (nar .byte y63)), (.int (nar .byte y70)), (.int (nar .byte y77)), (.int (nar .byte y84)), (.int (nar .byte y91)), (.int (nar .byte y98)), (.int (nar .byte y105)), (.int (nar .byte y112)), (.int (nar .byte y119)), (.int (nar .byte y126)), (.int (nar .byte y133)), (.int (nar .byte y140)), (.int (nar .byte y147)), (.int (nar .byte y154)), (.int (nar .byte y161)), (.int (nar .byte y168)), (.int (nar .byte y175)), (.int (nar .byte y182)), (.int (0 : Int32))] := V_b37
  replace r : A0 l Z n0 D h184 22 421 806 #[.val (.long dg), .second, .val (.int sh), .val (.int pt), .val (.int ps), .val (.int ij_), .val (.long v6_1), .second, .val (.int v8_2), .val (.int v9_3), .val (.int m4), .val (.int m6), .val (.int v12_9), .val (.int v13_10), .val (.int m11), .val (.int v15_13), .val (.int m14), .val (.int m19), .val (.int m29), .val (.int m31), .val (.int m33), .val (.int m35), .val (.ref b37), .unset, .unset, .unset, .unset] [(.ref b37)] := Own.aload r at_804 rfl rfl
  replace r : A0 l Z n0 D h184 22 421 808 #[.val (.long dg), .second, .val (.int sh), .val (.int pt), .val (.int ps), .val (.int ij_), .val (.long v6_1), .second, .val (.int v8_2), .val (.int v9_3), .val (.int m4), .val (.int m6), .val (.int v12_9), .val (.int v13_10), .val (.int m11), .val (.int v15_13), .val (.int m14), .val (.int m19), .val (.int m29), .val (.int m31), .val (.int m33), .val (.int m35), .val (.ref b37), .unset, .unset, .unset, .unset] [(.int (21 : Int32)), (.ref b37)] := Own.bipush r at_806 rfl
  replace r : A0 l Z n0 D h184 22 421 810 #[.val (.long dg), .second, .val (.int sh), .val (.int pt), .val (.int ps), .val (.int ij_), .val (.long v6_1), .second, .val (.int v8_2), .val (.int v9_3), .val (.int m4), .val (.int m6), .val (.int v12_9), .val (.int v13_10), .val (.int m11), .val (.int v15_13), .val (.int m14), .val (.int m19), .val (.int m29), .val (.int m31), .val (.int m33), .val (.int m35), .val (.ref b37), .unset, .unset, .unset, .unset] [(.int (21 : Int32)), (.int (21 : Int32)), (.ref b37)] := Own.bipush r at_808 rfl
  replace r : A0 l Z n0 D h184 22 421 812 #[.val (.long dg), .second, .val (.int sh), .val (.int pt), .val (.int ps), .val (.int ij_), .val (.long v6_1), .second, .val (.int v8_2), .val (.int v9_3), .val (.int m4), .val (.int m6), .val (.int v12_9), .val (.int v13_10), .val (.int m11), .val (.int v15_13), .val (.int m14), .val (.int m19), .val (.int m29), .val (.int m31), .val (.int m33), .val (.int m35), .val (.ref b37), .unset, .unset, .unset, .unset] [(.int v9_3), (.int (21 : Int32)), (.int (21 : Int32)), (.ref b37)] := Own.iload r at_810 rfl
  replace r : A0 l Z n0 D h184 22 421 813 #[.val (.long dg), .second, .val (.int sh), .val (.int pt), .val (.int ps), .val (.int ij_), .val (.long v6_1), .second, .val (.int v8_2), .val (.int v9_3), .val (.int m4), .val (.int m6), .val (.int v12_9), .val (.int v13_10), .val (.int m11), .val (.int v15_13), .val (.int m14), .val (.int m19), .val (.int m29), .val (.int m31), .val (.int m33), .val (.int m35), .val (.ref b37), .unset, .unset, .unset, .unset] [(.int ((21 : Int32) - v9_3)), (.int (21 : Int32)), (.ref b37)] := Own.isub r at_812
  replace r : A0 l Z n0 D h184 22 421 815 #[.val (.long dg), .second, .val (.int sh), .val (.int pt), .val (.int ps), .val (.int ij_), .val (.long v6_1), .second, .val (.int v8_2), .val (.int v9_3), .val (.int m4), .val (.int m6), .val (.int v12_9), .val (.int v13_10), .val (.int m11), .val (.int v15_13), .val (.int m14), .val (.int m19), .val (.int m29), .val (.int m31), .val (.int m33), .val (.int m35), .val (.ref b37), .unset, .unset, .unset, .unset] [(.int v8_2), (.int ((21 : Int32) - v9_3)), (.int (21 : Int32)), (.ref b37)] := Own.iload r at_813 rfl
  replace r : A0 l Z n0 D h184 22 421 817 #[.val (.long dg), .second, .val (.int sh), .val (.int pt), .val (.int ps), .val (.int ij_), .val (.long v6_1), .second, .val (.int v8_2), .val (.int v9_3), .val (.int m4), .val (.int m6), .val (.int v12_9), .val (.int v13_10), .val (.int m11), .val (.int v15_13), .val (.int m14), .val (.int m19), .val (.int m29), .val (.int m31), .val (.int m33), .val (.int m35), .val (.ref b37), .unset, .unset, .unset, .unset] [(.int m6), (.int v8_2), (.int ((21 : Int32) - v9_3)), (.int (21 : Int32)), (.ref b37)] := Own.iload r at_815 rfl
  replace r : A0 l Z n0 D h184 22 421 819 #[.val (.long dg), .second, .val (.int sh), .val (.int pt), .val (.int ps), .val (.int ij_), .val (.long v6_1), .second, .val (.int v8_2), .val (.int v9_3), .val (.int m4), .val (.int m6), .val (.int v12_9), .val (.int v13_10), .val (.int m11), .val (.int v15_13), .val (.int m14), .val (.int m19), .val (.int m29), .val (.int m31), .val (.int m33), .val (.int m35), .val (.ref b37), .unset, .unset, .unset, .unset] [(.int m31), (.int m6), (.int v8_2), (.int ((21 : Int32) - v9_3)), (.int (21 : Int32)), (.ref b37)] := Own.iload r at_817 rfl
  replace r : A0 l Z n0 D h184 22 421 821 #[.val (.long dg), .second, .val (.int sh), .val (.int pt), .val (.int ps), .val (.int ij_), .val (.long v6_1), .second, .val (.int v8_2), .val (.int v9_3), .val (.int m4), .val (.int m6), .val (.int v12_9), .val (.int v13_10), .val (.int m11), .val (.int v15_13), .val (.int m14), .val (.int m19), .val (.int m29), .val (.int m31), .val (.int m33), .val (.int m35), .val (.ref b37), .unset, .unset, .unset, .unset] [(.long v6_1), (.int m31), (.int m6), (.int v8_2), (.int ((21 : Int32) - v9_3)), (.int (21 : Int32)), (.ref b37)] := Own.lload r at_819 rfl
  replace r : A0 l Z n0 D h184 22 421 823 #[.val (.long dg), .second, .val (.int sh), .val (.int pt), .val (.int ps), .val (.int ij_), .val (.long v6_1), .second, .val (.int v8_2), .val (.int v9_3), .val (.int m4), .val (.int m6), .val (.int v12_9), .val (.int v13_10), .val (.int m11), .val (.int v15_13), .val (.int m14), .val (.int m19), .val (.int m29), .val (.int m31), .val (.int m33), .val (.int m35), .val (.ref b37), .unset, .unset, .unset, .unset] [(.int m19), (.long v6_1), (.int m31), (.int m6), (.int v8_2), (.int ((21 : Int32) - v9_3)), (.int (21 : Int32)), (.ref b37)] := Own.iload r at_821 rfl
  replace r : A0 l Z n0 D h184 22 421 825 #[.val (.long dg), .second, .val (.int sh), .val (.int pt), .val (.int ps), .val (.int ij_), .val (.long v6_1), .second, .val (.int v8_2), .val (.int v9_3), .val (.int m4), .val (.int m6), .val (.int v12_9), .val (.int v13_10), .val (.int m11), .val (.int v15_13), .val (.int m14), .val (.int m19), .val (.int m29), .val (.int m31), .val (.int m33), .val (.int m35), .val (.ref b37), .unset, .unset, .unset, .unset] [(.int m11), (.int m19), (.long v6_1), (.int m31), (.int m6), (.int v8_2), (.int ((21 : Int32) - v9_3)), (.int (21 : Int32)), (.ref b37)] := Own.iload r at_823 rfl
  replace r : A0 l Z n0 D h184 22 421 827 #[.val (.long dg), .second, .val (.int sh), .val (.int pt), .val (.int ps), .val (.int ij_), .val (.long v6_1), .second, .val (.int v8_2), .val (.int v9_3), .val (.int m4), .val (.int m6), .val (.int v12_9), .val (.int v13_10), .val (.int m11), .val (.int v15_13), .val (.int m14), .val (.int m19), .val (.int m29), .val (.int m31), .val (.int m33), .val (.int m35), .val (.ref b37), .unset, .unset, .unset, .unset] [(.int m29), (.int m11), (.int m19), (.long v6_1), (.int m31), (.int m6), (.int v8_2), (.int ((21 : Int32) - v9_3)), (.int (21 : Int32)), (.ref b37)] := Own.iload r at_825 rfl
  obtain ⟨rv185, h186, hQ187, r⟩ := Own.callS [(.int ((21 : Int32) - v9_3)), (.int v8_2), (.int m6), (.int m31), (.long v6_1), (.int m19), (.int m11), (.int m29)] r at_827 (c1 l Z a0 hw n0 h184 Zs ((21 : Int32) - v9_3) v8_2 m6 m31 v6_1 m19 m11 m29 hA hj) (hw _ (List.mem_of_getElem? (i := 3) rfl)) (hw _ (List.mem_of_getElem? (i := 4) rfl)) (hw _ (List.mem_of_getElem? (i := 5) rfl)) (hw _ (List.mem_of_getElem? (i := 6) rfl)) (lenOf pd_0_0 rfl) rfl rfl (W := 2) (Nat.le_of_eq rfl) rfl (by decide) (by decide) (by decide) (by decide) (by decide)
  obtain ⟨K188, y189, rfl, e_y189⟩ := hQ187
  replace V_b37 := V_b37.keep K188 (by simp)
  replace Zs := Nat.le_trans Zs K188.1
  replace r : A0 l Z n0 D h186 23 440 830 #[.val (.long dg), .second, .val (.int sh), .val (.int pt), .val (.int ps), .val (.int ij_), .val (.long v6_1), .second, .val (.int v8_2), .val (.int v9_3), .val (.int m4), .val (.int m6), .val (.int v12_9), .val (.int v13_10), .val (.int m11), .val (.int v15_13), .val (.int m14), .val (.int m19), .val (.int m29), .val (.int m31), .val (.int m33), .val (.int m35), .val (.ref b37), .unset, .unset, .unset, .unset] [(.int y189), (.int (21 : Int32)), (.ref b37)] := r
  obtain ⟨h191, ⟨W190, V_b37⟩, r⟩ := Own.bastore r at_830 V_b37 (by decide) (Nat.le_of_ble_eq_true rfl) ge_b37
  replace r : A0 l Z n0 D h191 23 440 831 #[.val (.long dg), .second, .val (.int sh), .val (.int pt), .val (.int ps), .val (.int ij_), .val (.long v6_1), .second, .val (.int v8_2), .val (.int v9_3), .val (.int m4), .val (.int m6), .val (.int v12_9), .val (.int v13_10), .val (.int m11), .val (.int v15_13), .val (.int m14), .val (.int m19), .val (.int m29), .val (.int m31), .val (.int m33), .val (.int m35), .val (.ref b37), .unset, .unset, .unset, .unset] [] := r
  replace Zs := Nat.le_trans Zs (Nat.le_of_eq W190.size.symm)
  replace V_b37 : Own.VA Z h191 b37 .byte [(.int (nar .byte y42)), (.int (nar .byte y49)), (.int (nar .byte y56)), (.int (nar .byte y63)), (.int (nar .byte y70)), (.int (nar .byte y77)), (.int (nar .byte y84)), (.int (nar .byte y91)), (.int (nar .byte y98)), (.int (nar .byte y105)), (.int (nar .byte y112)), (.int (nar .byte y119)), (.int (nar .byte y126)), (.int (nar .byte y133)), (.int (nar .byte y140)), (.int (nar .byte y147)), (.int (nar .byte y154)), (.int (nar .byte y161)), (.int (nar .byte y168)), (.int (nar .byte y175)), (.int (nar .byte y182)), (.int (nar .byte y189))] := V_b37
  replace r : A0 l Z n0 D h191 23 440 833 #[.val (.long dg), .second, .val (.int sh), .val (.int pt), .val (.int ps), .val (.int ij_), .val (.long v6_1), .second, .val (.int v8_2), .val (.int v9_3), .val (.int m4), .val (.int m6), .val (.int v12_9), .val (.int v13_10), .val (.int m11), .val (.int v15_13), .val (.int m14), .val (.int m19), .val (.int m29), .val (.int m31), .val (.int m33), .val (.int m35), .val (.ref b37), .unset, .unset, .unset, .unset] [(.ref b37)] := Own.aload r at_831 rfl rfl
  replace r : A0 l Z n0 D h191 23 440 835 #[.val (.long dg), .second, .val (.int sh), .val (.int pt), .val (.int ps), .val (.int ij_), .val (.long v6_1), .second, .val (.int v8_2), .val (.int v9_3), .val (.int m4), .val (.int m6), .val (.int v12_9), .val (.int v13_10), .val (.int m11), .val (.int v15_13), .val (.int m14), .val (.int m19), .val (.int m29), .val (.int m31), .val (.int m33), .val (.int m35), .val (.ref b37), .unset, .unset, .unset, .unset] [(.int v9_3), (.ref b37)] := Own.iload r at_833 rfl
  replace r : A0 l Z n0 D h191 23 440 837 #[.val (.long dg), .second, .val (.int sh), .val (.int pt), .val (.int ps), .val (.int ij_), .val (.long v6_1), .second, .val (.int v8_2), .val (.int v9_3), .val (.int m4), .val (.int m6), .val (.int v12_9), .val (.int v13_10), .val (.int m11), .val (.int v15_13), .val (.int m14), .val (.int m19), .val (.int m29), .val (.int m31), .val (.int m33), .val (.int m35), .val (.ref b37), .unset, .unset, .unset, .unset] [(.int v9_3), (.int v9_3), (.ref b37)] := Own.iload r at_835 rfl
  replace r : A0 l Z n0 D h191 23 440 839 #[.val (.long dg), .second, .val (.int sh), .val (.int pt), .val (.int ps), .val (.int ij_), .val (.long v6_1), .second, .val (.int v8_2), .val (.int v9_3), .val (.int m4), .val (.int m6), .val (.int v12_9), .val (.int v13_10), .val (.int m11), .val (.int v15_13), .val (.int m14), .val (.int m19), .val (.int m29), .val (.int m31), .val (.int m33), .val (.int m35), .val (.ref b37), .unset, .unset, .unset, .unset] [(.int v8_2), (.int v9_3), (.int v9_3), (.ref b37)] := Own.iload r at_837 rfl
  replace r : A0 l Z n0 D h191 23 440 840 #[.val (.long dg), .second, .val (.int sh), .val (.int pt), .val (.int ps), .val (.int ij_), .val (.long v6_1), .second, .val (.int v8_2), .val (.int v9_3), .val (.int m4), .val (.int m6), .val (.int v12_9), .val (.int v13_10), .val (.int m11), .val (.int v15_13), .val (.int m14), .val (.int m19), .val (.int m29), .val (.int m31), .val (.int m33), .val (.int m35), .val (.ref b37), .unset, .unset, .unset, .unset] [(.int (v9_3 + v8_2)), (.int v9_3), (.ref b37)] := Own.iadd r at_839
  replace r : A0 l Z n0 D h191 23 440 842 #[.val (.long dg), .second, .val (.int sh), .val (.int pt), .val (.int ps), .val (.int ij_), .val (.long v6_1), .second, .val (.int v8_2), .val (.int v9_3), .val (.int m4), .val (.int m6), .val (.int v12_9), .val (.int v13_10), .val (.int m11), .val (.int v15_13), .val (.int m14), .val (.int m19), .val (.int m29), .val (.int m31), .val (.int m33), .val (.int m35), .val (.ref b37), .unset, .unset, .unset, .unset] [(.int v12_9), (.int (v9_3 + v8_2)), (.int v9_3), (.ref b37)] := Own.iload r at_840 rfl
  obtain ⟨rv192, h193, hQ194, r⟩ := Own.callS [(.ref b37), (.int v9_3), (.int (v9_3 + v8_2)), (.int v12_9)] r at_842 (c3 l Z a0 hw n0 h191 Zs b37 v9_3 (v9_3 + v8_2) v12_9 [(nar .byte y42), (nar .byte y49), (nar .byte y56), (nar .byte y63), (nar .byte y70), (nar .byte y77), (nar .byte y84), (nar .byte y91), (nar .byte y98), (nar .byte y105), (nar .byte y112), (nar .byte y119), (nar .byte y126), (nar .byte y133), (nar .byte y140), (nar .byte y147), (nar .byte y154), (nar .byte y161), (nar .byte y168), (nar .byte y175), (nar .byte y182), (nar .byte y189)] V_b37 rfl hs3 he3 hp3 hle3) (hw _ (List.mem_of_getElem? (i := 29) rfl)) (hw _ (List.mem_of_getElem? (i := 30) rfl)) (hw _ (List.mem_of_getElem? (i := 31) rfl)) (hw _ (List.mem_of_getElem? (i := 32) rfl)) (lenOf pd_0_1 rfl) rfl rfl (W := 0) (Nat.le_of_eq rfl) rfl (by decide) (by decide) (by decide) (by decide) (by decide)
  obtain ⟨rfl, y195, rfl, e_y195⟩ := hQ194
  have hb := own_all hj e_y42 e_y49 e_y56 e_y63 e_y70 e_y77 e_y84 e_y91 e_y98 e_y105 e_y112 e_y119 e_y126 e_y133 e_y140 e_y147 e_y154 e_y161 e_y168 e_y175 e_y182 e_y189
  replace r : A0 l Z n0 D h191 23 440 845 #[.val (.long dg), .second, .val (.int sh), .val (.int pt), .val (.int ps), .val (.int ij_), .val (.long v6_1), .second, .val (.int v8_2), .val (.int v9_3), .val (.int m4), .val (.int m6), .val (.int v12_9), .val (.int v13_10), .val (.int m11), .val (.int v15_13), .val (.int m14), .val (.int m19), .val (.int m29), .val (.int m31), .val (.int m33), .val (.int m35), .val (.ref b37), .unset, .unset, .unset, .unset] [(.long y195)] := r
  replace r : A0 l Z n0 D h191 23 440 847 #[.val (.long dg), .second, .val (.int sh), .val (.int pt), .val (.int ps), .val (.int ij_), .val (.long v6_1), .second, .val (.int v8_2), .val (.int v9_3), .val (.int m4), .val (.int m6), .val (.int v12_9), .val (.int v13_10), .val (.int m11), .val (.int v15_13), .val (.int m14), .val (.int m19), .val (.int m29), .val (.int m31), .val (.int m33), .val (.int m35), .val (.ref b37), .val (.long y195), .second, .unset, .unset] [] := Own.lstore r at_845 rfl
  replace r : A0 l Z n0 D h191 23 440 849 #[.val (.long dg), .second, .val (.int sh), .val (.int pt), .val (.int ps), .val (.int ij_), .val (.long v6_1), .second, .val (.int v8_2), .val (.int v9_3), .val (.int m4), .val (.int m6), .val (.int v12_9), .val (.int v13_10), .val (.int m11), .val (.int v15_13), .val (.int m14), .val (.int m19), .val (.int m29), .val (.int m31), .val (.int m33), .val (.int m35), .val (.ref b37), .val (.long y195), .second, .unset, .unset] [(.int m19)] := Own.iload r at_847 rfl
  by_cases br196 : m19 = (0 : Int32)
  · skip
    replace r : A0 l Z n0 D h191 23 440 858 #[.val (.long dg), .second, .val (.int sh), .val (.int pt), .val (.int ps), .val (.int ij_), .val (.long v6_1), .second, .val (.int v8_2), .val (.int v9_3), .val (.int m4), .val (.int m6), .val (.int v12_9), .val (.int v13_10), .val (.int m11), .val (.int v15_13), .val (.int m14), .val (.int m19), .val (.int m29), .val (.int m31), .val (.int m33), .val (.int m35), .val (.ref b37), .val (.long y195), .second, .unset, .unset] [] := Own.ifYes r at_849 ((if0 _ _).trans (teq br196).1) (by decide) (by decide)
    replace r : A0 l Z n0 D h191 23 440 860 #[.val (.long dg), .second, .val (.int sh), .val (.int pt), .val (.int ps), .val (.int ij_), .val (.long v6_1), .second, .val (.int v8_2), .val (.int v9_3), .val (.int m4), .val (.int m6), .val (.int v12_9), .val (.int v13_10), .val (.int m11), .val (.int v15_13), .val (.int m14), .val (.int m19), .val (.int m29), .val (.int m31), .val (.int m33), .val (.int m35), .val (.ref b37), .val (.long y195), .second, .unset, .unset] [(.int v8_2)] := Own.iload r at_858 rfl
    replace r : A0 l Z n0 D h191 23 440 862 #[.val (.long dg), .second, .val (.int sh), .val (.int pt), .val (.int ps), .val (.int ij_), .val (.long v6_1), .second, .val (.int v8_2), .val (.int v9_3), .val (.int m4), .val (.int m6), .val (.int v12_9), .val (.int v13_10), .val (.int m11), .val (.int v15_13), .val (.int m14), .val (.int m19), .val (.int m29), .val (.int m31), .val (.int m33), .val (.int m35), .val (.ref b37), .val (.long y195), .second, .unset, .unset] [(.int m6), (.int v8_2)] := Own.iload r at_860 rfl
    replace r : A0 l Z n0 D h191 23 440 864 #[.val (.long dg), .second, .val (.int sh), .val (.int pt), .val (.int ps), .val (.int ij_), .val (.long v6_1), .second, .val (.int v8_2), .val (.int v9_3), .val (.int m4), .val (.int m6), .val (.int v12_9), .val (.int v13_10), .val (.int m11), .val (.int v15_13), .val (.int m14), .val (.int m19), .val (.int m29), .val (.int m31), .val (.int m33), .val (.int m35), .val (.ref b37), .val (.long y195), .second, .unset, .unset] [(.int m31), (.int m6), (.int v8_2)] := Own.iload r at_862 rfl
    replace r : A0 l Z n0 D h191 23 440 866 #[.val (.long dg), .second, .val (.int sh), .val (.int pt), .val (.int ps), .val (.int ij_), .val (.long v6_1), .second, .val (.int v8_2), .val (.int v9_3), .val (.int m4), .val (.int m6), .val (.int v12_9), .val (.int v13_10), .val (.int m11), .val (.int v15_13), .val (.int m14), .val (.int m19), .val (.int m29), .val (.int m31), .val (.int m33), .val (.int m35), .val (.ref b37), .val (.long y195), .second, .unset, .unset] [(.int m33), (.int m31), (.int m6), (.int v8_2)] := Own.iload r at_864 rfl
    replace r : A0 l Z n0 D h191 23 440 868 #[.val (.long dg), .second, .val (.int sh), .val (.int pt), .val (.int ps), .val (.int ij_), .val (.long v6_1), .second, .val (.int v8_2), .val (.int v9_3), .val (.int m4), .val (.int m6), .val (.int v12_9), .val (.int v13_10), .val (.int m11), .val (.int v15_13), .val (.int m14), .val (.int m19), .val (.int m29), .val (.int m31), .val (.int m33), .val (.int m35), .val (.ref b37), .val (.long y195), .second, .unset, .unset] [(.int m35), (.int m33), (.int m31), (.int m6), (.int v8_2)] := Own.iload r at_866 rfl
    replace r : A0 l Z n0 D h191 23 440 870 #[.val (.long dg), .second, .val (.int sh), .val (.int pt), .val (.int ps), .val (.int ij_), .val (.long v6_1), .second, .val (.int v8_2), .val (.int v9_3), .val (.int m4), .val (.int m6), .val (.int v12_9), .val (.int v13_10), .val (.int m11), .val (.int v15_13), .val (.int m14), .val (.int m19), .val (.int m29), .val (.int m31), .val (.int m33), .val (.int m35), .val (.ref b37), .val (.long y195), .second, .unset, .unset] [(.int v12_9), (.int m35), (.int m33), (.int m31), (.int m6), (.int v8_2)] := Own.iload r at_868 rfl
    replace r : A0 l Z n0 D h191 23 440 872 #[.val (.long dg), .second, .val (.int sh), .val (.int pt), .val (.int ps), .val (.int ij_), .val (.long v6_1), .second, .val (.int v8_2), .val (.int v9_3), .val (.int m4), .val (.int m6), .val (.int v12_9), .val (.int v13_10), .val (.int m11), .val (.int v15_13), .val (.int m14), .val (.int m19), .val (.int m29), .val (.int m31), .val (.int m33), .val (.int m35), .val (.ref b37), .val (.long y195), .second, .unset, .unset] [(.long v6_1), (.int v12_9), (.int m35), (.int m33), (.int m31), (.int m6), (.int v8_2)] := Own.lload r at_870 rfl
    obtain ⟨rv197, h198, hQ199, r⟩ := Own.callS [(.int v8_2), (.int m6), (.int m31), (.int m33), (.int m35), (.int v12_9), (.long v6_1)] r at_872 (c4 l Z a0 hw n0 h191 Zs v8_2 m6 m31 m33 m35 v12_9 v6_1 hE) (hw _ (List.mem_of_getElem? (i := 35) rfl)) (hw _ (List.mem_of_getElem? (i := 36) rfl)) (hw _ (List.mem_of_getElem? (i := 5) rfl)) (hw _ (List.mem_of_getElem? (i := 37) rfl)) (lenOf pd_0_2 rfl) rfl rfl (W := 0) (Nat.le_of_eq rfl) rfl (by decide) (by decide) (by decide) (by decide) (by decide)
    obtain ⟨K200, y201, rfl, e_y201⟩ := hQ199
    replace V_b37 := V_b37.keep K200 (by simp)
    replace Zs := Nat.le_trans Zs K200.1
    replace r : A0 l Z n0 D h198 25 478 875 #[.val (.long dg), .second, .val (.int sh), .val (.int pt), .val (.int ps), .val (.int ij_), .val (.long v6_1), .second, .val (.int v8_2), .val (.int v9_3), .val (.int m4), .val (.int m6), .val (.int v12_9), .val (.int v13_10), .val (.int m11), .val (.int v15_13), .val (.int m14), .val (.int m19), .val (.int m29), .val (.int m31), .val (.int m33), .val (.int m35), .val (.ref b37), .val (.long y195), .second, .unset, .unset] [(.long y201)] := r
    replace r : A0 l Z n0 D h198 25 478 877 #[.val (.long dg), .second, .val (.int sh), .val (.int pt), .val (.int ps), .val (.int ij_), .val (.long v6_1), .second, .val (.int v8_2), .val (.int v9_3), .val (.int m4), .val (.int m6), .val (.int v12_9), .val (.int v13_10), .val (.int m11), .val (.int v15_13), .val (.int m14), .val (.int m19), .val (.int m29), .val (.int m31), .val (.int m33), .val (.int m35), .val (.ref b37), .val (.long y195), .second, .val (.long y201), .second] [] := Own.lstore r at_875 rfl
    replace r : A0 l Z n0 D h198 25 478 879 #[.val (.long dg), .second, .val (.int sh), .val (.int pt), .val (.int ps), .val (.int ij_), .val (.long v6_1), .second, .val (.int v8_2), .val (.int v9_3), .val (.int m4), .val (.int m6), .val (.int v12_9), .val (.int v13_10), .val (.int m11), .val (.int v15_13), .val (.int m14), .val (.int m19), .val (.int m29), .val (.int m31), .val (.int m33), .val (.int m35), .val (.ref b37), .val (.long y195), .second, .val (.long y201), .second] [(.long y195)] := Own.lload r at_877 rfl
    replace r : A0 l Z n0 D h198 25 478 881 #[.val (.long dg), .second, .val (.int sh), .val (.int pt), .val (.int ps), .val (.int ij_), .val (.long v6_1), .second, .val (.int v8_2), .val (.int v9_3), .val (.int m4), .val (.int m6), .val (.int v12_9), .val (.int v13_10), .val (.int m11), .val (.int v15_13), .val (.int m14), .val (.int m19), .val (.int m29), .val (.int m31), .val (.int m33), .val (.int m35), .val (.ref b37), .val (.long y195), .second, .val (.long y201), .second] [(.long y201), (.long y195)] := Own.lload r at_879 rfl
    replace r : A0 l Z n0 D h198 25 478 882 #[.val (.long dg), .second, .val (.int sh), .val (.int pt), .val (.int ps), .val (.int ij_), .val (.long v6_1), .second, .val (.int v8_2), .val (.int v9_3), .val (.int m4), .val (.int m6), .val (.int v12_9), .val (.int v13_10), .val (.int m11), .val (.int v15_13), .val (.int m14), .val (.int m19), .val (.int m29), .val (.int m31), .val (.int m33), .val (.int m35), .val (.ref b37), .val (.long y195), .second, .val (.long y201), .second] [(.int (XT.cmpL y195 y201))] := Own.lcmp r at_881
    replace r : A0 l Z n0 D h198 25 478 885 #[.val (.long dg), .second, .val (.int sh), .val (.int pt), .val (.int ps), .val (.int ij_), .val (.long v6_1), .second, .val (.int v8_2), .val (.int v9_3), .val (.int m4), .val (.int m6), .val (.int v12_9), .val (.int v13_10), .val (.int m11), .val (.int v15_13), .val (.int m14), .val (.int m19), .val (.int m29), .val (.int m31), .val (.int m33), .val (.int m35), .val (.ref b37), .val (.long y195), .second, .val (.long y201), .second] [] := Own.ifNo r at_882 (XT.ll_ne_f (own_good hA hE hj e_v9_3 hb e_y195 e_v6_1 (by assumption) e_y201))
    replace r : A0 l Z n0 D h198 25 478 886 #[.val (.long dg), .second, .val (.int sh), .val (.int pt), .val (.int ps), .val (.int ij_), .val (.long v6_1), .second, .val (.int v8_2), .val (.int v9_3), .val (.int m4), .val (.int m6), .val (.int v12_9), .val (.int v13_10), .val (.int m11), .val (.int v15_13), .val (.int m14), .val (.int m19), .val (.int m29), .val (.int m31), .val (.int m33), .val (.int m35), .val (.ref b37), .val (.long y195), .second, .val (.long y201), .second] [(.int (1 : Int32))] := Own.iconst r at_885 rfl
    replace r : A0 l Z n0 D h198 25 478 890 #[.val (.long dg), .second, .val (.int sh), .val (.int pt), .val (.int ps), .val (.int ij_), .val (.long v6_1), .second, .val (.int v8_2), .val (.int v9_3), .val (.int m4), .val (.int m6), .val (.int v12_9), .val (.int v13_10), .val (.int m11), .val (.int v15_13), .val (.int m14), .val (.int m19), .val (.int m29), .val (.int m31), .val (.int m33), .val (.int m35), .val (.ref b37), .val (.long y195), .second, .val (.long y201), .second] [(.int (1 : Int32))] := Own.goto r at_886 (by decide) (by decide)
    exact ⟨_, _, (Own.Rch.retZ (y := x) (bytes := code) (mx := maxLocals) r at_890 (by decide)).more (by decide) (by decide), rfl⟩
  · skip
    replace r : A0 l Z n0 D h191 23 440 852 #[.val (.long dg), .second, .val (.int sh), .val (.int pt), .val (.int ps), .val (.int ij_), .val (.long v6_1), .second, .val (.int v8_2), .val (.int v9_3), .val (.int m4), .val (.int m6), .val (.int v12_9), .val (.int v13_10), .val (.int m11), .val (.int v15_13), .val (.int m14), .val (.int m19), .val (.int m29), .val (.int m31), .val (.int m33), .val (.int m35), .val (.ref b37), .val (.long y195), .second, .unset, .unset] [] := Own.ifNo r at_849 ((if0 _ _).trans (feq br196).1)
    replace r : A0 l Z n0 D h191 23 440 855 #[.val (.long dg), .second, .val (.int sh), .val (.int pt), .val (.int ps), .val (.int ij_), .val (.long v6_1), .second, .val (.int v8_2), .val (.int v9_3), .val (.int m4), .val (.int m6), .val (.int v12_9), .val (.int v13_10), .val (.int m11), .val (.int v15_13), .val (.int m14), .val (.int m19), .val (.int m29), .val (.int m31), .val (.int m33), .val (.int m35), .val (.ref b37), .val (.long y195), .second, .unset, .unset] [(.long (-1 : Int64))] := Own.ldcJ r at_852 (hw _ (List.mem_of_getElem? (i := 38) rfl))
    replace r : A0 l Z n0 D h191 23 440 875 #[.val (.long dg), .second, .val (.int sh), .val (.int pt), .val (.int ps), .val (.int ij_), .val (.long v6_1), .second, .val (.int v8_2), .val (.int v9_3), .val (.int m4), .val (.int m6), .val (.int v12_9), .val (.int v13_10), .val (.int m11), .val (.int v15_13), .val (.int m14), .val (.int m19), .val (.int m29), .val (.int m31), .val (.int m33), .val (.int m35), .val (.ref b37), .val (.long y195), .second, .unset, .unset] [(.long (-1 : Int64))] := Own.goto r at_855 (by decide) (by decide)
    replace r : A0 l Z n0 D h191 23 440 877 #[.val (.long dg), .second, .val (.int sh), .val (.int pt), .val (.int ps), .val (.int ij_), .val (.long v6_1), .second, .val (.int v8_2), .val (.int v9_3), .val (.int m4), .val (.int m6), .val (.int v12_9), .val (.int v13_10), .val (.int m11), .val (.int v15_13), .val (.int m14), .val (.int m19), .val (.int m29), .val (.int m31), .val (.int m33), .val (.int m35), .val (.ref b37), .val (.long y195), .second, .val (.long (-1 : Int64)), .second] [] := Own.lstore r at_875 rfl
    replace r : A0 l Z n0 D h191 23 440 879 #[.val (.long dg), .second, .val (.int sh), .val (.int pt), .val (.int ps), .val (.int ij_), .val (.long v6_1), .second, .val (.int v8_2), .val (.int v9_3), .val (.int m4), .val (.int m6), .val (.int v12_9), .val (.int v13_10), .val (.int m11), .val (.int v15_13), .val (.int m14), .val (.int m19), .val (.int m29), .val (.int m31), .val (.int m33), .val (.int m35), .val (.ref b37), .val (.long y195), .second, .val (.long (-1 : Int64)), .second] [(.long y195)] := Own.lload r at_877 rfl
    replace r : A0 l Z n0 D h191 23 440 881 #[.val (.long dg), .second, .val (.int sh), .val (.int pt), .val (.int ps), .val (.int ij_), .val (.long v6_1), .second, .val (.int v8_2), .val (.int v9_3), .val (.int m4), .val (.int m6), .val (.int v12_9), .val (.int v13_10), .val (.int m11), .val (.int v15_13), .val (.int m14), .val (.int m19), .val (.int m29), .val (.int m31), .val (.int m33), .val (.int m35), .val (.ref b37), .val (.long y195), .second, .val (.long (-1 : Int64)), .second] [(.long (-1 : Int64)), (.long y195)] := Own.lload r at_879 rfl
    replace r : A0 l Z n0 D h191 23 440 882 #[.val (.long dg), .second, .val (.int sh), .val (.int pt), .val (.int ps), .val (.int ij_), .val (.long v6_1), .second, .val (.int v8_2), .val (.int v9_3), .val (.int m4), .val (.int m6), .val (.int v12_9), .val (.int v13_10), .val (.int m11), .val (.int v15_13), .val (.int m14), .val (.int m19), .val (.int m29), .val (.int m31), .val (.int m33), .val (.int m35), .val (.ref b37), .val (.long y195), .second, .val (.long (-1 : Int64)), .second] [(.int (XT.cmpL y195 (-1 : Int64)))] := Own.lcmp r at_881
    replace r : A0 l Z n0 D h191 23 440 885 #[.val (.long dg), .second, .val (.int sh), .val (.int pt), .val (.int ps), .val (.int ij_), .val (.long v6_1), .second, .val (.int v8_2), .val (.int v9_3), .val (.int m4), .val (.int m6), .val (.int v12_9), .val (.int v13_10), .val (.int m11), .val (.int v15_13), .val (.int m14), .val (.int m19), .val (.int m29), .val (.int m31), .val (.int m33), .val (.int m35), .val (.ref b37), .val (.long y195), .second, .val (.long (-1 : Int64)), .second] [] := Own.ifNo r at_882 (XT.ll_ne_f (own_bad hA hE hj e_v9_3 hb e_y195 e_v6_1 e_v13_10 e_m11 e_v15_13 e_m14 e_m19 e_m29 (own_xn _) (by assumption)))
    replace r : A0 l Z n0 D h191 23 440 886 #[.val (.long dg), .second, .val (.int sh), .val (.int pt), .val (.int ps), .val (.int ij_), .val (.long v6_1), .second, .val (.int v8_2), .val (.int v9_3), .val (.int m4), .val (.int m6), .val (.int v12_9), .val (.int v13_10), .val (.int m11), .val (.int v15_13), .val (.int m14), .val (.int m19), .val (.int m29), .val (.int m31), .val (.int m33), .val (.int m35), .val (.ref b37), .val (.long y195), .second, .val (.long (-1 : Int64)), .second] [(.int (1 : Int32))] := Own.iconst r at_885 rfl
    replace r : A0 l Z n0 D h191 23 440 890 #[.val (.long dg), .second, .val (.int sh), .val (.int pt), .val (.int ps), .val (.int ij_), .val (.long v6_1), .second, .val (.int v8_2), .val (.int v9_3), .val (.int m4), .val (.int m6), .val (.int v12_9), .val (.int v13_10), .val (.int m11), .val (.int v15_13), .val (.int m14), .val (.int m19), .val (.int m29), .val (.int m31), .val (.int m33), .val (.int m35), .val (.ref b37), .val (.long y195), .second, .val (.long (-1 : Int64)), .second] [(.int (1 : Int32))] := Own.goto r at_886 (by decide) (by decide)
    exact ⟨_, _, (Own.Rch.retZ (y := x) (bytes := code) (mx := maxLocals) r at_890 (by decide)).more (by decide) (by decide), rfl⟩
set_option maxRecDepth 65536 in
set_option maxHeartbeats 40000000 in
theorem comes_1 {Post : Tables → Env → Array Value → State → Outcome → State → Prop} (hpost : ∀ tb e args s v u, (limb_1_1.after args s (.returned v) u = true ∧ limb_1_2.after args s (.returned v) u = true ∧ True) → FrameEnd s (.returned v) u (Jvm.fieldLocs frame_1_writes args s ++ Jvm.arrayLocs frame_1_arrays args s ++ Jvm.staticLocs frame_1_statics s) 56 896 → Post tb e args s (.returned v) u) :
    ArmFor flags0 classFile x code maxLocals ret World_1 tables_1 room_1 Calls_1 rest_1 Pre_1 Post := by
  intro l hfl _ _ p e ha hc hk s m args below hf hA hF happ hP
  obtain ⟨hcalls, hrest, hpre⟩ := hP
  obtain ⟨-, -, -, hnamed, -, -, -, hat⟩ := (Spec.applies_iff hf).mp happ
  obtain ⟨hg, hn⟩ := and_e (Cond.before_iff.mp (show (Jvm.Cond.and given_1 narrow_1).before args s = true from hpre))
  obtain ⟨g1, g2⟩ := and_e hg
  obtain ⟨g3, g4⟩ := and_e g2
  obtain ⟨g5, g6⟩ := and_e g4
  obtain ⟨g7, g8⟩ := and_e g6
  obtain ⟨g9, g10⟩ := and_e g8
  obtain ⟨w0, w1, w2, w3, w4, rfl⟩ : ∃ w0 w1 w2 w3 w4 : Value, args = #[w0, w1, w2, w3, w4] := by
    have hs : args.size = 5 := by simpa [Cond.value, given_1] using g1
    obtain ⟨L⟩ := args
    match L, hs with
    | [w0, w1, w2, w3, w4], _ => exact ⟨w0, w1, w2, w3, w4, rfl⟩
  have hw := fun d (hd : d ∈ tables_1) => atoms_spec (ws := Jvm.Cond.code x code maxLocals ret :: tables_1) hat d (List.mem_cons_of_mem _ hd)
  have hfit : Fit s := fun {y c} hc i hi => by
    obtain ⟨ha, rfl⟩ := Array.getElem?_eq_some_iff.mp hc
    have q := List.all_eq_true.mp ((Array.all_eq_true_iff_forall_mem.mp hF) _ (Array.getElem_mem ha)) i (List.mem_range.mpr hi)
    simpa [Array.getElem?_eq_getElem hi] using q
  obtain ⟨i0, ei0⟩ := isL_v g3
  obtain rfl : w0 = (.long i0) := Option.some.inj ei0
  obtain ⟨i1, ei1⟩ := is_v g5
  obtain rfl : w1 = (.int i1) := Option.some.inj ei1
  obtain ⟨i2, ei2⟩ := is_v g7
  obtain rfl : w2 = (.int i2) := Option.some.inj ei2
  obtain ⟨i3, ei3⟩ := is_v g9
  obtain rfl : w3 = (.int i3) := Option.some.inj ei3
  obtain ⟨i4, ei4⟩ := is_v g10
  obtain rfl : w4 = (.int i4) := Option.some.inj ei4
  obtain ⟨n, o, h1, h2, h3, _, L, rfl, ⟨N, rfl⟩, hq⟩ := (c0 l s _ hw s.heap.size s.heap (Nat.le_refl _) i0 i1 i2 i3 i4) tables_1 p e ha hc hk s m _ below hf ((Spec.applies_iff_loose hf).mp happ).1 ⟨rfl, State.Warmed39.refl s, rfl⟩ trivial
  refine ⟨n, _, h1, h2, h3, hpost _ _ _ _ _ _ ⟨Cond.after_iff.mpr rfl, Cond.after_iff.mpr (eq_i res_at (Term.int_eval (1)) rfl), trivial⟩ ⟨hq.1, hq.2.1, (hq.2.2.sift fun y hy => Or.inr (N y hy)).mono (by decide) (by decide)⟩⟩
theorem main_1_1 : Claimed_1_1 := comes_1 fun _ _ _ _ _ _ h hF => ⟨h.1, hF⟩
theorem main_1_2 : Claimed_1_2 := comes_1 fun _ _ _ _ _ _ h hF => ⟨h.2.1, hF⟩
end Jvm.Pilot.@@N@@
namespace Jvm.Pilot.@@N@@
open Jvm Jvm.ClassFile Sem Op Lib Jvm.Free Jvm.Stand Jvm.Pilot.@@N@@.Jvm.D
/-! MADE BY PROGRAM (witnessworld.py) out of the Statement's table words and the real class files: 11 classes; the members and pool entries that the words name. The judged class is class 1, her method 1. -/
namespace start1
open Jvm.ClassFile
def u (s : String) : CpInfo := .utf8 (stringToUtf16 s)
/-- a pool by its gaps: so many unusable entries, then the entry; so many at the end -/
def gap : Nat → List CpInfo → List CpInfo
  | 0, r => r
  | n + 1, r => .unusable :: gap n r
def poolList (es : List (Nat × CpInfo)) (last : Nat) : List CpInfo := es.foldr (fun e r => gap e.1 (e.2 :: r)) (gap last [])
def pool (es : List (Nat × CpInfo)) (last : Nat) : Array CpInfo := ⟨poolList es last⟩
def fileOf (pool : Array CpInfo) (this : Nat) (attrs : Array Attribute := #[]) (ms : Array MethodInfo := #[]) (fl : Nat := 33) (sup : Nat := 0) (ifs : Array Nat := #[]) (fds : Array FieldInfo := #[]) : ClassFile where
  minorVersion := 0
  majorVersion := 65
  constantPool := pool
  accessFlags := fl
  thisClass := this
  superClass := sup
  interfaces := ifs
  fields := fds
  methods := ms
  attributes := attrs
def plain (name : String) (sup : Option ClassId) : Class where
  name := name
  kind := .ordinary
  loader := none
  accessFlags := 33
  super := sup
  interfaces := #[]
  cf := none
  fields := #[]
  methods := #[]
  instanceTypes := #[]
  staticTypes := #[]
  resolved := #[]
  callSites := []
  init := .initialized
  statics := none
  mirror := none

def pool0 : Array CpInfo := pool [(5, u "<init>"), (0, u "()V"), (1, .class_ 10), (1, u "java/lang/Object")] 113

def k0m0 : Method := { name := "<init>", desc := "()V", sig := { parameters := [], returnType := none }, accessFlags := 1, code := none }
/-- java/lang/Object -/
def k0 : Class := { plain "java/lang/Object" none with
  accessFlags := 33
  interfaces := #[]
  cf := some (fileOf pool0 8 #[] #[{ accessFlags := 1, nameIndex := 5, descriptorIndex := 6, attributes := #[] }] 33 0 #[] #[])
  fields := #[]
  methods := #[k0m0]
  instanceTypes := #[]
  staticTypes := #[]
  resolved := Array.replicate 124 none
  statics := none }

def pool1 : Array CpInfo := pool [(2, .class_ 4), (1, u "java/lang/Object"), (0, u "<init>"), (0, u "()V"), (2, .long 9223372036854775807), (1, .integer 65535), (0, .integer 2147483647), (0, .methodref 14 15), (0, .class_ 16), (0, .nameAndType 17 18), (0, u "com/example/debit/debit/csv/DecimalTextScaledPinLaw"), (0, u "at"), (0, u "(IIIIJZIB)B"), (0, .methodref 20 21), (0, .class_ 22), (0, .nameAndType 23 24), (0, u "com/example/debit/debit/csv/DecimalText"), (0, u "scaled"), (0, u "([BIII)J"), (0, .long 18446744073709551615), (1, .methodref 14 28), (0, .nameAndType 29 30), (0, u "expected"), (0, u "(IIIIIIJ)J"), (0, .methodref 14 32), (0, .nameAndType 33 34), (0, u "pow10"), (0, u "(I)J"), (0, .long 10), (1, .long 100), (1, .long 1000), (1, .long 10000), (1, .long 100000), (1, .long 1000000), (1, .long 10000000), (1, .long 100000000), (1, .long 1000000000), (1, .long 10000000000), (1, .long 100000000000), (1, .long 1000000000000), (1, .long 10000000000000), (1, .long 100000000000000), (1, .long 1000000000000000), (1, .long 10000000000000000), (1, .long 100000000000000000), (1, .long 1000000000000000000), (3, u "law"), (0, u "(JIIII)Z")] 5

def k1m0 : Method := { name := "<init>", desc := "()V", sig := { parameters := [], returnType := none }, accessFlags := 2, code := none }
def k1c1 : Code := { maxStack := 11, maxLocals := 27, code := code, exceptionTable := #[], attributes := #[] }
def k1m1 : Method := { name := "law", desc := "(JIIII)Z", sig := { parameters := [.long, .int, .int, .int, .int], returnType := some .boolean }, accessFlags := 9, code := some k1c1 }
def k1c2 : Code := { maxStack := 5, maxLocals := 11, code := method_3_code, exceptionTable := #[], attributes := #[] }
def k1m2 : Method := { name := "at", desc := "(IIIIJZIB)B", sig := { parameters := [.int, .int, .int, .int, .long, .boolean, .int, .byte], returnType := some .byte }, accessFlags := 10, code := some k1c2 }
def k1c3 : Code := { maxStack := 4, maxLocals := 8, code := method_4_code, exceptionTable := #[], attributes := #[] }
def k1m3 : Method := { name := "expected", desc := "(IIIIIIJ)J", sig := { parameters := [.int, .int, .int, .int, .int, .int, .long], returnType := some .long }, accessFlags := 10, code := some k1c3 }
def k1c4 : Code := { maxStack := 5, maxLocals := 2, code := method_5_code, exceptionTable := #[], attributes := #[] }
def k1m4 : Method := { name := "pow10", desc := "(I)J", sig := { parameters := [.int], returnType := some .long }, accessFlags := 10, code := some k1c4 }
/-- com/example/debit/debit/csv/DecimalTextScaledPinLaw -/
def k1 : Class := { plain "com/example/debit/debit/csv/DecimalTextScaledPinLaw" (some 0) with
  accessFlags := 49
  interfaces := #[]
  cf := some (fileOf pool1 14 #[] #[{ accessFlags := 2, nameIndex := 5, descriptorIndex := 6, attributes := #[] }, { accessFlags := 9, nameIndex := 73, descriptorIndex := 74, attributes := #[] }, { accessFlags := 10, nameIndex := 17, descriptorIndex := 18, attributes := #[] }, { accessFlags := 10, nameIndex := 29, descriptorIndex := 30, attributes := #[] }, { accessFlags := 10, nameIndex := 33, descriptorIndex := 34, attributes := #[] }] 49 2 #[] #[])
  fields := #[]
  methods := #[k1m0, k1m1, k1m2, k1m3, k1m4]
  instanceTypes := #[]
  staticTypes := #[]
  resolved := Array.replicate 80 none
  statics := none }

def pool2 : Array CpInfo := pool [(1, .class_ 2), (0, u "com/example/debit/debit/csv/DecimalText"), (1, .class_ 6), (1, u "java/lang/Object"), (0, u "<init>"), (0, u "()V"), (96, u "scaled"), (0, u "([BIII)J"), (0, .long 18446744073709551615), (1, .long 10), (1, u "MOST_DIGITS"), (0, u "I"), (2, u "SCALED_DIGITS"), (1, u "FORM"), (0, u "Ljava/lang/String;")] 32

def k2m0 : Method := { name := "<init>", desc := "()V", sig := { parameters := [], returnType := none }, accessFlags := 2, code := none }
def k2c1 : Code := { maxStack := 4, maxLocals := 11, code := prog_15_method_7_code, exceptionTable := #[], attributes := #[] }
def k2m1 : Method := { name := "scaled", desc := "([BIII)J", sig := { parameters := [(.array .byte), .int, .int, .int], returnType := some .long }, accessFlags := 8, code := some k2c1 }
/-- com/example/debit/debit/csv/DecimalText -/
def k2 : Class := { plain "com/example/debit/debit/csv/DecimalText" (some 0) with
  accessFlags := 49
  interfaces := #[]
  cf := some (fileOf pool2 1 #[] #[{ accessFlags := 2, nameIndex := 7, descriptorIndex := 8, attributes := #[] }, { accessFlags := 8, nameIndex := 105, descriptorIndex := 106, attributes := #[] }] 49 4 #[] #[{ accessFlags := 25, nameIndex := 111, descriptorIndex := 112, attributes := #[] }, { accessFlags := 26, nameIndex := 115, descriptorIndex := 112, attributes := #[] }, { accessFlags := 25, nameIndex := 117, descriptorIndex := 118, attributes := #[] }])
  fields := #[{ name := "MOST_DIGITS", type := .int, accessFlags := 25, slot := 0, constantValue := 0 }, { name := "SCALED_DIGITS", type := .int, accessFlags := 26, slot := 1, constantValue := 0 }, { name := "FORM", type := (.object "java/lang/String"), accessFlags := 25, slot := 2, constantValue := 0 }]
  methods := #[k2m0, k2m1]
  instanceTypes := #[]
  staticTypes := #[.int, .int, (.object "java/lang/String")]
  resolved := Array.replicate 151 none
  statics := none }

def pool3 : Array CpInfo := pool [(1, u "java/lang/Cloneable"), (0, .class_ 1), (0, u "java/lang/Object"), (0, .class_ 3)] 3

/-- java/lang/Cloneable -/
def k3 : Class := { plain "java/lang/Cloneable" (some 0) with
  accessFlags := 1537
  interfaces := #[]
  cf := some (fileOf pool3 2 #[] #[] 1537 4 #[] #[])
  fields := #[]
  methods := #[]
  instanceTypes := #[]
  staticTypes := #[]
  resolved := Array.replicate 8 none
  statics := none }

def pool4 : Array CpInfo := pool [(1, u "java/io/Serializable"), (0, .class_ 1), (0, u "java/lang/Object"), (0, .class_ 3)] 3

/-- java/io/Serializable -/
def k4 : Class := { plain "java/io/Serializable" (some 0) with
  accessFlags := 1537
  interfaces := #[]
  cf := some (fileOf pool4 2 #[] #[] 1537 4 #[] #[])
  fields := #[]
  methods := #[]
  instanceTypes := #[]
  staticTypes := #[]
  resolved := Array.replicate 8 none
  statics := none }

/-- the primitive byte -/
def k5 : Class := { plain "byte" none with kind := .primitive 'B', accessFlags := 0x411 }
/-- [B -/
def k6 : Class := { plain "[B" (some 0) with kind := .array 5 .byte, interfaces := #[3, 4], accessFlags := 1041 }

/-- the primitive int -/
def k7 : Class := { plain "int" none with kind := .primitive 'I', accessFlags := 0x411 }
/-- [I -/
def k8 : Class := { plain "[I" (some 0) with kind := .array 7 .int, interfaces := #[3, 4], accessFlags := 1041 }

/-- the primitive long -/
def k9 : Class := { plain "long" none with kind := .primitive 'J', accessFlags := 0x411 }
/-- [J -/
def k10 : Class := { plain "[J" (some 0) with kind := .array 9 .long, interfaces := #[3, 4], accessFlags := 1041 }

def heap : Heap := #[]
def classes : Array Class := #[k0, k1, k2, k3, k4, k5, k6, k7, k8, k9, k10]
def interned : List (Array UInt16 × Addr) := []
def slotsUsed : Nat := 0
def theMethod : MethodId := ⟨1, 1⟩
def args0 : Array Value := #[.long 123, .int 5, .int 1, .int 7, .int 0]
def aboutOver (below : List Frame) : State where
  vm := { classes := classes, interned := interned.toArray }
  heap := heap
  slotsUsed := slotsUsed
  threads := #[{ frames := .invoking theMethod args0 :: below }]
def below0 : List Frame := [.native { method := ⟨0, 0⟩, args := #[] }]
def about1 : State := aboutOver below0
def p0 : Program := .bare "" "" ""
def e0 : Env := launch0.env 0 0 0
theorem w_frames : about1.frames = Frame.invoking theMethod args0 :: below0 := rfl
set_option maxRecDepth 65536 in
theorem w_args : argsFit about1.vm theMethod args0 = true := by decide +kernel
set_option maxRecDepth 65536 in
theorem w_heap : heapFits about1 = true := by decide +kernel
set_option maxRecDepth 65536 in
theorem w_runnable : about1.curStatus? = some .runnable := by decide +kernel
set_option maxRecDepth 65536 in
theorem w_alone : about1.alone = true := by decide +kernel
set_option maxRecDepth 65536 in
theorem w_named : about1.methodNamed? x = some theMethod := by decide +kernel
set_option maxRecDepth 65536 in
theorem w_hears : about1.hears theMethod below0 = true := by decide +kernel
set_option maxRecDepth 65536 in
theorem w_ripe : about1.ripe theMethod args0 below0 = true := by decide +kernel
theorem w_running : about1.status = .running := rfl
set_option maxRecDepth 65536 in
theorem w_room : about1.hasRoom e0.platform room_1 = true :=
  launch0.hasRoom_least _ room_1 (by decide +kernel) (by decide +kernel) (by decide +kernel) (by decide +kernel) (by decide +kernel) (by decide +kernel)
theorem allAtoms_all (ts : List Jvm.Cond) (a : Array Jvm.Value) (st : Jvm.State) : (allAtoms ts).before a st = ts.all (fun c => c.before a st) := by
  induction ts with
  | nil => rfl
  | cons c t ih =>
    show (Jvm.Cond.and c (allAtoms t)).before a st = _
    rw [Jvm.Cond.before_and, ih, List.all_cons]
def words1 : List Jvm.Cond := Jvm.Cond.code x code maxLocals ret :: tables_1
/-- a 'code' word, met by the world's own term for the bytes: nothing is compared byte by byte -/
theorem code_word {y : MethodName} {bytes : ByteArray} {mx : Nat} {rt : Option FieldType} {a : Array Value} {s : State} {m : MethodId} {meth : Method} {c : Code} (h1 : s.methodNamed? y = some m) (h2 : s.vm.method? m = some meth) (h3 : meth.code = some c) (h4 : c.code = bytes)
    (h5 : (c.maxLocals == mx && c.exceptionTable.isEmpty && decide (c.maxStack ≤ mostOperands) && decide (meth.sig.returnType = rt) && !meth.locks && decide (parseMethodDescriptor y.desc = some meth.sig)) = true) : (Jvm.Cond.code y bytes mx rt).before a s = true := by
  simp only [Bool.and_eq_true, beq_iff_eq, Bool.not_eq_true', decide_eq_true_eq] at h5
  obtain ⟨⟨⟨⟨⟨g1, g2⟩, g3⟩, g4⟩, g5⟩, g6⟩ := h5
  simp [Cond.before, Cond.holds, Cond.value, h1, h2, h3, h4, g1, g2, g3, g4, g5, g6]
def isCode : Jvm.Cond → Bool
  | .code _ _ _ _ => true
  | _ => false
theorem all_split {L : List Jvm.Cond} {P : Jvm.Cond → Bool} (h1 : L.all (fun c => isCode c || P c) = true) (h2 : ∀ c ∈ L.filter isCode, P c = true) : L.all P = true := by
  refine List.all_eq_true.mpr fun c hc => ?_
  have h := List.all_eq_true.mp h1 c hc
  rcases Bool.eq_false_or_eq_true (isCode c) with hi | hi
  · exact h2 c (List.mem_filter.mpr ⟨hc, hi⟩)
  · simpa [hi] using h
set_option maxRecDepth 65536 in
theorem w_c0 : (Jvm.Cond.code x code maxLocals ret).before args0 about1 = true := code_word (m := ⟨1, 1⟩) (meth := k1m1) (c := k1c1) (by decide +kernel) rfl rfl rfl (by decide +kernel)
set_option maxRecDepth 65536 in
theorem w_c1 : (Jvm.Cond.code ({ cls := "com/example/debit/debit/csv/DecimalTextScaledPinLaw", name := "at", desc := "(IIIIJZIB)B" } : Jvm.MethodName) method_3_code (11 : Nat) (Option.some Jvm.ClassFile.FieldType.byte)).before args0 about1 = true := code_word (m := ⟨1, 2⟩) (meth := k1m2) (c := k1c2) (by decide +kernel) rfl rfl rfl (by decide +kernel)
set_option maxRecDepth 65536 in
theorem w_c2 : (Jvm.Cond.code ({ cls := "com/example/debit/debit/csv/DecimalTextScaledPinLaw", name := "pow10", desc := "(I)J" } : Jvm.MethodName) method_5_code (2 : Nat) (Option.some Jvm.ClassFile.FieldType.long)).before args0 about1 = true := code_word (m := ⟨1, 4⟩) (meth := k1m4) (c := k1c4) (by decide +kernel) rfl rfl rfl (by decide +kernel)
set_option maxRecDepth 65536 in
theorem w_c3 : (Jvm.Cond.code ({ cls := "com/example/debit/debit/csv/DecimalText", name := "scaled", desc := "([BIII)J" } : Jvm.MethodName) prog_15_method_7_code (11 : Nat) (Option.some Jvm.ClassFile.FieldType.long)).before args0 about1 = true := code_word (m := ⟨2, 1⟩) (meth := k2m1) (c := k2c1) (by decide +kernel) rfl rfl rfl (by decide +kernel)
set_option maxRecDepth 65536 in
theorem w_c4 : (Jvm.Cond.code ({ cls := "com/example/debit/debit/csv/DecimalTextScaledPinLaw", name := "expected", desc := "(IIIIIIJ)J" } : Jvm.MethodName) method_4_code (8 : Nat) (Option.some Jvm.ClassFile.FieldType.long)).before args0 about1 = true := code_word (m := ⟨1, 3⟩) (meth := k1m3) (c := k1c3) (by decide +kernel) rfl rfl rfl (by decide +kernel)
def codes1 : List Jvm.Cond := [Jvm.Cond.code x code maxLocals ret, Jvm.Cond.code ({ cls := "com/example/debit/debit/csv/DecimalTextScaledPinLaw", name := "at", desc := "(IIIIJZIB)B" } : Jvm.MethodName) method_3_code (11 : Nat) (Option.some Jvm.ClassFile.FieldType.byte), Jvm.Cond.code ({ cls := "com/example/debit/debit/csv/DecimalTextScaledPinLaw", name := "pow10", desc := "(I)J" } : Jvm.MethodName) method_5_code (2 : Nat) (Option.some Jvm.ClassFile.FieldType.long), Jvm.Cond.code ({ cls := "com/example/debit/debit/csv/DecimalText", name := "scaled", desc := "([BIII)J" } : Jvm.MethodName) prog_15_method_7_code (11 : Nat) (Option.some Jvm.ClassFile.FieldType.long), Jvm.Cond.code ({ cls := "com/example/debit/debit/csv/DecimalTextScaledPinLaw", name := "expected", desc := "(IIIIIIJ)J" } : Jvm.MethodName) method_4_code (8 : Nat) (Option.some Jvm.ClassFile.FieldType.long)]
set_option maxRecDepth 65536 in
theorem codes_eq : words1.filter isCode = codes1 := rfl
theorem w_codes : ∀ c ∈ words1.filter isCode, c.before args0 about1 = true := by
  rw [codes_eq]
  intro c hc
  simp only [codes1, List.mem_cons, List.not_mem_nil, or_false] at hc
  rcases hc with rfl | rfl | rfl | rfl | rfl
  · exact w_c0
  · exact w_c1
  · exact w_c2
  · exact w_c3
  · exact w_c4
set_option maxRecDepth 65536 in
theorem w_t1 : (words1.take 24).all (fun c => isCode c || c.before args0 about1) = true := by decide +kernel
set_option maxRecDepth 65536 in
theorem w_t2 : (words1.drop 24).all (fun c => isCode c || c.before args0 about1) = true := by decide +kernel
theorem w_tables : (allAtoms (Jvm.Cond.code x code maxLocals ret :: tables_1)).before args0 about1 = true := by
  rw [allAtoms_all]
  show words1.all (fun c => c.before args0 about1) = true
  refine all_split ?_ w_codes
  rw [← List.take_append_drop 24 words1, List.all_append, w_t1, w_t2]
  rfl
set_option maxRecDepth 65536 in
theorem w_case : (Jvm.Cond.and given_1 narrow_1).before args0 about1 = true := by decide +kernel
theorem w_applies : (headSpec (Jvm.Cond.code x code maxLocals ret :: tables_1) room_1).applies x e0.platform about1 = true :=
  (Spec.applies_iff w_frames).mpr ⟨w_running, w_runnable, w_alone, w_named, w_hears, w_ripe, w_room, w_tables⟩
theorem atStart : AtStart classFile x code maxLocals ret World_1 tables_1 room_1 Calls_1 rest_1 Pre_1 launch0 p0 e0 about1 theMethod args0 below0 :=
  ⟨lists_1, trivial, launch0.admits_env _ _ _, launch0.least_env, fairChoices_fair.cas, fairChoices_fair.clock, w_frames, w_args, w_heap, w_applies, trivial, trivial, w_case⟩
end start1
theorem witness_1 : WitnessClaimed_1 := ⟨start1.p0, start1.e0, start1.about1, start1.theMethod, start1.args0, start1.below0, start1.atStart⟩
end Jvm.Pilot.@@N@@
