import JvmDerived
import JvmDerived.Pilot.@@N@@Statement
import JvmDerived.Pilot.@@N@@Code
set_option linter.unusedVariables false
set_option linter.unusedSimpArgs false
namespace Jvm.Own
open Sem ClassFile Op Lib Jvm.Stand Jvm.Free Jvm.LawKit Jvm.RoadKit
/-- what stays put in the walk of one body: program, environment, the state at the call, the method, its arguments, the frames below, its record and code, the state behind the entry, the entry frame -/
abbrev Dyn : Type := Program × Env × State × MethodId × Array Value × List Frame × Method × Code × State × JFrame
def Base (Z : State) (y : MethodName) (bytes : ByteArray) (mx : Nat) (rt : Option FieldType) (D : Dyn) : Prop :=
  match D with
  | (p, _, s, m, _, _, meth, c, _, _) => p.tables.exec = Jvm.exec ∧ c.code = bytes ∧ c.maxLocals = mx ∧ s.vm.findClass y.cls = some m.cls ∧ Z.Warmed39 s.vm ∧ meth.sig.returnType = rt ∧ meth.locks = false ∧ meth.name = y.name
/-- the walk has come to pc with these locals, this stack, this heap; k cells and n slots have been made -/
def Rch (l : Launch) (Z : State) (n0 : Nat) (R : Room) (y : MethodName) (bytes : ByteArray) (mx : Nat) (rt : Option FieldType) (D : Dyn) (h : Heap) (k n pc : Nat) (Ls : Array Slot) (st : List Value) : Prop :=
  Base Z y bytes mx rt D ∧
  match D with
  | (p, e, s, m, args, below, meth, c, s₁, g0) => ∃ (T : State) (locs : List Loc), Stand p l e R s m args below meth c T locs k n ∧ T.heap = h ∧ Fr n0 locs ∧ Steps p.tables e below (s₁.setTop g0) (T.setTop (mkF m pc Ls st))
/-- the body has returned v and left the heap h -/
def Don (l : Launch) (Z : State) (n0 : Nat) (R : Room) (D : Dyn) (h : Heap) (k n : Nat) (v : Option Value) : Prop :=
  match D with
  | (p, e, s, m, args, below, meth, c, s₁, g0) => ∃ (T : State) (locs : List Loc) (fs : List Frame), Stand p l e R s m args below meth c T locs k n ∧ T.heap = h ∧ Fr n0 locs ∧ Steps p.tables e below (s₁.setTop g0) (T.setFrames fs) ∧ (T.setFrames fs).heap = h ∧
      (T.setFrames fs).status = .running ∧ Ended (T.setFrames fs) below (.returned v) ∧ s.WarmedH (T.setFrames fs).vm ∧ s.sameButNew ({ T.setFrames fs with vm := s.vm } : State) locs k n
/-- a callee's contract at the heap h and the arguments as' -/
def Con (l : Launch) (Z : State) (n0 : Nat) (y : MethodName) (bytes : ByteArray) (mx : Nat) (rt : Option FieldType) (rm : Room) (as' : Array Value) (h : Heap) (Q : Option Value → Heap → Prop) : Prop :=
  ∀ ws : List Jvm.Cond, MetFree l y (head1 (Jvm.Cond.code y bytes mx rt :: ws) rm) (fun a U => a = as' ∧ Z.Warmed39 U.vm ∧ U.heap = h) (fun _ _ _ _ _ => True) (fun _ U o U' => ∃ v L, o = .returned v ∧ (Fr n0 L ∧ Q v U'.heap) ∧ FrameEnd U o U' L rm.cells rm.slots)
def ishlW (x z : Int32) : Int32 := x <<< (z &&& 31)
def ishrW (x z : Int32) : Int32 := x >>> (z &&& 31)
def iushrW (x z : Int32) : Int32 := (x.toUInt32 >>> (z &&& 31).toUInt32).toInt32
def lshlW (x : Int64) (z : Int32) : Int64 := x <<< (z &&& 0x3f).toInt64
def lshrW (x : Int64) (z : Int32) : Int64 := x >>> (z &&& 0x3f).toInt64
def lushrW (x : Int64) (z : Int32) : Int64 := (x.toUInt64 >>> (z &&& 0x3f).toInt64.toUInt64).toInt64
def lremW (x z : Int64) : Int64 := x - (x / z) * z
def i2bW (x : Int32) : Int32 := x.toInt8.toInt32
def i2cW (x : Int32) : Int32 := x.toUInt32.toUInt16.toUInt32.toInt32
def i2sW (x : Int32) : Int32 := x.toInt16.toInt32
/-- an element of an int list, by a Java index -/
def ga (L : List Int32) (j : Int32) : Int32 := L.getD j.toNatClampNeg 0
section Kit
variable {l : Launch} {Z : State} {a0 : Array Value} {n0 : Nat} {R : Room} {y : MethodName} {bytes : ByteArray} {mx : Nat} {rt : Option FieldType} {D : Dyn} {h h' : Heap} {k n pc : Nat} {Ls : Array Slot} {st : List Value}
theorem Con.enter {rm : Room} {as' : Array Value} {Q : Option Value → Heap → Prop} (hp : plainFor y = true) (ef : ∀ m, entryFrame m as' mx = mkF m 0 Ls [])
    (f : ∀ D : Dyn, Rch l Z n0 rm y bytes mx rt D h 0 0 0 Ls [] → ∃ v h', Don l Z n0 rm D h' rm.cells rm.slots v ∧ Q v h') : Con l Z n0 y bytes mx rt rm as' h Q := by
  intro ws
  refine MetFree.of_bodySF hp hisR ?_
  intro p e s m args below meth c s₁ Bd hml0 hP hK
  obtain ⟨rfl, hZ, hh⟩ := hP
  have X0 : Stand p l e rm s m args below meth c s₁ [] 0 0 := Stand.of_body Bd
  have e0 : s₁.heap = h := by rw [← hh, Bd.state]; rfl
  obtain ⟨v, h', hD, hQ⟩ := f (p, e, s, m, args, below, meth, c, s₁, mkF m 0 Ls []) ⟨⟨Bd.exec, Bd.bytes, hml0, findClass_of_methodNamed Bd.named, hZ, Bd.returns, Bd.notSynchronized, (name_of_methodNamed Bd.named Bd.method).1⟩, s₁, [], X0, e0, Fr.nil n0, Steps.refl _⟩
  obtain ⟨T, locs, fs, X, eT, N, hs, hh', hrun, hend, hW, hsame⟩ := hD
  exact ⟨_, _, castTop (ef m) hs, hrun, hend, v, locs, rfl, ⟨N, hh'.symm ▸ hQ⟩, ⟨_, rfl⟩, hW, hsame⟩
theorem Rch.go (r : Rch l Z n0 R y bytes mx rt D h k n pc Ls st) {pc' : Nat} {Ls' : Array Slot} {st' : List Value}
    (f : ∀ {p : Program} {e : Env} {s : State} {m : MethodId} {args : Array Value} {below : List Frame} {meth : Method} {c : Code} {T : State} {locs : List Loc}, Stand p l e R s m args below meth c T locs k n → p.tables.exec = Jvm.exec → c.code = bytes → Z.Warmed39 s.vm → s.vm.findClass y.cls = some m.cls → T.heap = h →
      ∀ target, Steps p.tables e below (T.setTop (mkF m pc' Ls' st')) target → Steps p.tables e below (T.setTop (mkF m pc Ls st)) target) : Rch l Z n0 R y bytes mx rt D h k n pc' Ls' st' := by
  obtain ⟨p, e, s, m, args, below, meth, c, s₁, g0⟩ := D
  obtain ⟨hB, T, locs, X, eT, N, hs⟩ := r
  exact ⟨hB, T, locs, X, eT, N, hs.trans (f X hB.1 hB.2.1 hB.2.2.2.2.1 hB.2.2.2.1 eT _ (Steps.refl _))⟩
theorem Rch.mv (r : Rch l Z n0 R y bytes mx rt D h k n pc Ls st) {k' n' pc' : Nat} {Ls' : Array Slot} {st' : Heap → List Value} {P : Heap → Prop}
    (f : ∀ {p : Program} {e : Env} {s : State} {m : MethodId} {args : Array Value} {below : List Frame} {meth : Method} {c : Code} {T : State} {locs : List Loc}, Stand p l e R s m args below meth c T locs k n → p.tables.exec = Jvm.exec → c.code = bytes → c.maxLocals = mx → meth.name = y.name → Z.Warmed39 s.vm → s.vm.findClass y.cls = some m.cls → T.heap = h → Fr n0 locs →
      ∃ (T' : State) (h' : Heap) (locs' : List Loc), Stand p l e R s m args below meth c T' locs' k' n' ∧ T'.heap = h' ∧ P h' ∧ Fr n0 locs' ∧ Steps p.tables e below (T.setTop (mkF m pc Ls st)) (T'.setTop (mkF m pc' Ls' (st' h')))) : ∃ h', P h' ∧ Rch l Z n0 R y bytes mx rt D h' k' n' pc' Ls' (st' h') := by
  obtain ⟨p, e, s, m, args, below, meth, c, s₁, g0⟩ := D
  obtain ⟨hB, T, locs, X, eT, N, hs⟩ := r
  obtain ⟨T', h', locs', X', eT', hP, N', hs'⟩ := f X hB.1 hB.2.1 hB.2.2.1 hB.2.2.2.2.2.2.2 hB.2.2.2.2.1 hB.2.2.2.1 eT N
  exact ⟨h', hP, hB, T', locs', X', eT', N', hs.trans hs'⟩
theorem Rch.more (r : Rch l Z n0 R y bytes mx rt D h k n pc Ls st) {k' n' : Nat} (hk : k ≤ k') (hn : n ≤ n') : Rch l Z n0 R y bytes mx rt D h k' n' pc Ls st := by
  obtain ⟨p, e, s, m, args, below, meth, c, s₁, g0⟩ := D
  obtain ⟨hB, T, locs, X, eT, N, hs⟩ := r
  exact ⟨hB, T, locs, X.more hk hn, eT, N, hs⟩
theorem aload {i : Nat} {v : Value} (r : Rch l Z n0 R y bytes mx rt D h k n pc Ls st) (hd : decode bytes pc = .ok (.aload i, 2)) (hl : Ls[i]? = some (.val v)) (hv : v.isRef = true) : Rch l Z n0 R y bytes mx rt D h k n (pc + 2) Ls (v :: st) := r.go fun X hx b _ _ _ t q => XS.aload X.here hx rfl (hb b hd) hl hv q
theorem aloadN {i : Fin 4} {v : Value} (r : Rch l Z n0 R y bytes mx rt D h k n pc Ls st) (hd : decode bytes pc = .ok (.aload_n i, 1)) (hl : Ls[i.val]? = some (.val v)) (hv : v.isRef = true) : Rch l Z n0 R y bytes mx rt D h k n (pc + 1) Ls (v :: st) := r.go fun X hx b _ _ _ t q => XS.aloadN X.here hx rfl (hb b hd) hl hv q
theorem iload {i : Nat} {v : Int32} (r : Rch l Z n0 R y bytes mx rt D h k n pc Ls st) (hd : decode bytes pc = .ok (.iload i, 2)) (hl : Ls[i]? = some (.val (.int v))) : Rch l Z n0 R y bytes mx rt D h k n (pc + 2) Ls (.int v :: st) := r.go fun X hx b _ _ _ t q => XS.iload X.here hx rfl (hb b hd) hl q
theorem iloadN {i : Fin 4} {v : Int32} (r : Rch l Z n0 R y bytes mx rt D h k n pc Ls st) (hd : decode bytes pc = .ok (.iload_n i, 1)) (hl : Ls[i.val]? = some (.val (.int v))) : Rch l Z n0 R y bytes mx rt D h k n (pc + 1) Ls (.int v :: st) := r.go fun X hx b _ _ _ t q => XS.iloadN X.here hx rfl (hb b hd) hl q
theorem lload {i : Nat} {v : Int64} (r : Rch l Z n0 R y bytes mx rt D h k n pc Ls st) (hd : decode bytes pc = .ok (.lload i, 2)) (hl : Ls[i]? = some (.val (.long v))) : Rch l Z n0 R y bytes mx rt D h k n (pc + 2) Ls (.long v :: st) := r.go fun X hx b _ _ _ t q => XS.lload X.here hx rfl (hb b hd) hl q
theorem lloadN {i : Fin 4} {v : Int64} (r : Rch l Z n0 R y bytes mx rt D h k n pc Ls st) (hd : decode bytes pc = .ok (.lload_n i, 1)) (hl : Ls[i.val]? = some (.val (.long v))) : Rch l Z n0 R y bytes mx rt D h k n (pc + 1) Ls (.long v :: st) := r.go fun X hx b _ _ _ t q => XS.lloadN X.here hx rfl (hb b hd) hl q
theorem istore {x : Int32} {i : Nat} {L' : Array Slot} (r : Rch l Z n0 R y bytes mx rt D h k n pc Ls (.int x :: st)) (hd : decode bytes pc = .ok (.istore i, 2)) (hl : storeLocals Ls i (.int x) = some L') : Rch l Z n0 R y bytes mx rt D h k n (pc + 2) L' st := r.go fun X hx b _ _ _ t q => XS.istore X.here hx rfl (hb b hd) rfl hl q
theorem istoreN {x : Int32} {i : Fin 4} {L' : Array Slot} (r : Rch l Z n0 R y bytes mx rt D h k n pc Ls (.int x :: st)) (hd : decode bytes pc = .ok (.istore_n i, 1)) (hl : storeLocals Ls i.val (.int x) = some L') : Rch l Z n0 R y bytes mx rt D h k n (pc + 1) L' st := r.go fun X hx b _ _ _ t q => XS.istoreN X.here hx rfl (hb b hd) rfl hl q
theorem lstore {x : Int64} {i : Nat} {L' : Array Slot} (r : Rch l Z n0 R y bytes mx rt D h k n pc Ls (.long x :: st)) (hd : decode bytes pc = .ok (.lstore i, 2)) (hl : storeLocals Ls i (.long x) = some L') : Rch l Z n0 R y bytes mx rt D h k n (pc + 2) L' st := r.go fun X hx b _ _ _ t q => XS.lstore X.here hx rfl (hb b hd) rfl hl q
theorem lstoreN {x : Int64} {i : Fin 4} {L' : Array Slot} (r : Rch l Z n0 R y bytes mx rt D h k n pc Ls (.long x :: st)) (hd : decode bytes pc = .ok (.lstore_n i, 1)) (hl : storeLocals Ls i.val (.long x) = some L') : Rch l Z n0 R y bytes mx rt D h k n (pc + 1) L' st := r.go fun X hx b _ _ _ t q => XS.lstoreN X.here hx rfl (hb b hd) rfl hl q
theorem astore {x : Value} {i : Nat} {L' : Array Slot} (r : Rch l Z n0 R y bytes mx rt D h k n pc Ls (x :: st)) (hd : decode bytes pc = .ok (.astore i, 2)) (hv : x.isRef = true) (hl : storeLocals Ls i x = some L') : Rch l Z n0 R y bytes mx rt D h k n (pc + 2) L' st := r.go fun X hx b _ _ _ t q => XS.astore X.here hx rfl (hb b hd) rfl hv hl q
theorem astoreN {x : Value} {i : Fin 4} {L' : Array Slot} (r : Rch l Z n0 R y bytes mx rt D h k n pc Ls (x :: st)) (hd : decode bytes pc = .ok (.astore_n i, 1)) (hv : x.isRef = true) (hl : storeLocals Ls i.val x = some L') : Rch l Z n0 R y bytes mx rt D h k n (pc + 1) L' st := r.go fun X hx b _ _ _ t q => XS.astoreN X.here hx rfl (hb b hd) rfl hv hl q
theorem iconst {i : Int} {v : Int32} (r : Rch l Z n0 R y bytes mx rt D h k n pc Ls st) (hd : decode bytes pc = .ok (.iconst i, 1)) (hv : Int32.ofInt i = v) : Rch l Z n0 R y bytes mx rt D h k n (pc + 1) Ls (.int v :: st) := by subst hv; exact r.go fun X hx b _ _ _ t q => XS.iconst X.here hx rfl (hb b hd) q
theorem bipush {i : Int} {v : Int32} (r : Rch l Z n0 R y bytes mx rt D h k n pc Ls st) (hd : decode bytes pc = .ok (.bipush i, 2)) (hv : (Int8.ofInt i).toInt32 = v) : Rch l Z n0 R y bytes mx rt D h k n (pc + 2) Ls (.int v :: st) := by subst hv; exact r.go fun X hx b _ _ _ t q => XS.bipush X.here hx rfl (hb b hd) q
theorem sipush {i : Int} {v : Int32} (r : Rch l Z n0 R y bytes mx rt D h k n pc Ls st) (hd : decode bytes pc = .ok (.sipush i, 3)) (hv : (Int16.ofInt i).toInt32 = v) : Rch l Z n0 R y bytes mx rt D h k n (pc + 3) Ls (.int v :: st) := by subst hv; exact r.go fun X hx b _ _ _ t q => XS.sipush X.here hx rfl (hb b hd) q
theorem lconst {i : Fin 2} {v : Int64} (r : Rch l Z n0 R y bytes mx rt D h k n pc Ls st) (hd : decode bytes pc = .ok (.lconst i, 1)) (hv : Int64.ofNat i = v) : Rch l Z n0 R y bytes mx rt D h k n (pc + 1) Ls (.long v :: st) := by subst hv; exact r.go fun X hx b _ _ _ t q => XT.lconst X.here hx rfl (hb b hd) q
theorem aconstNull (r : Rch l Z n0 R y bytes mx rt D h k n pc Ls st) (hd : decode bytes pc = .ok (.aconst_null, 1)) : Rch l Z n0 R y bytes mx rt D h k n (pc + 1) Ls (.null :: st) := r.go fun X hx b _ _ _ t q => XS.aconstNull X.here hx rfl (hb b hd) q
theorem dup {x : Value} (r : Rch l Z n0 R y bytes mx rt D h k n pc Ls (x :: st)) (hd : decode bytes pc = .ok (.dup, 1)) (hc : x.category = 1) : Rch l Z n0 R y bytes mx rt D h k n (pc + 1) Ls (x :: x :: st) := r.go fun X hx b _ _ _ t q => XS.dup X.here hx rfl (hb b hd) rfl hc q
theorem pop {x : Value} (r : Rch l Z n0 R y bytes mx rt D h k n pc Ls (x :: st)) (hd : decode bytes pc = .ok (.pop, 1)) (hc : x.category = 1) : Rch l Z n0 R y bytes mx rt D h k n (pc + 1) Ls st := r.go fun X hx b _ _ _ t q => XS.pop X.here hx rfl (hb b hd) rfl hc q
theorem dupX1 {x z : Value} (r : Rch l Z n0 R y bytes mx rt D h k n pc Ls (x :: z :: st)) (hd : decode bytes pc = .ok (.dup_x1, 1)) (hc : x.category = 1) (hc2 : z.category = 1) : Rch l Z n0 R y bytes mx rt D h k n (pc + 1) Ls (x :: z :: x :: st) := r.go fun X hx b _ _ _ t q => XS.dupX1 X.here hx rfl (hb b hd) rfl hc hc2 q
theorem dup2 {x z : Value} (r : Rch l Z n0 R y bytes mx rt D h k n pc Ls (x :: z :: st)) (hd : decode bytes pc = .ok (.dup2, 1)) (hc : x.category = 1) (hc2 : z.category = 1) : Rch l Z n0 R y bytes mx rt D h k n (pc + 1) Ls (x :: z :: x :: z :: st) := r.go fun X hx b _ _ _ t q => XT.dup2 X.here hx rfl (hb b hd) rfl hc hc2 q
theorem dup2L {x : Int64} (r : Rch l Z n0 R y bytes mx rt D h k n pc Ls (.long x :: st)) (hd : decode bytes pc = .ok (.dup2, 1)) : Rch l Z n0 R y bytes mx rt D h k n (pc + 1) Ls (.long x :: .long x :: st) := r.go fun X hx b _ _ _ t q => XT.dup2L X.here hx rfl (hb b hd) rfl q
theorem iadd {x z : Int32} (r : Rch l Z n0 R y bytes mx rt D h k n pc Ls (.int z :: .int x :: st)) (hd : decode bytes pc = .ok (.iadd, 1)) : Rch l Z n0 R y bytes mx rt D h k n (pc + 1) Ls (.int (x + z) :: st) := r.go fun X hx b _ _ _ t q => XS.iadd X.here hx rfl (hb b hd) rfl q
theorem isub {x z : Int32} (r : Rch l Z n0 R y bytes mx rt D h k n pc Ls (.int z :: .int x :: st)) (hd : decode bytes pc = .ok (.isub, 1)) : Rch l Z n0 R y bytes mx rt D h k n (pc + 1) Ls (.int (x - z) :: st) := r.go fun X hx b _ _ _ t q => XS.isub X.here hx rfl (hb b hd) rfl q
theorem imul {x z : Int32} (r : Rch l Z n0 R y bytes mx rt D h k n pc Ls (.int z :: .int x :: st)) (hd : decode bytes pc = .ok (.imul, 1)) : Rch l Z n0 R y bytes mx rt D h k n (pc + 1) Ls (.int (x * z) :: st) := r.go fun X hx b _ _ _ t q => XS.imul X.here hx rfl (hb b hd) rfl q
theorem iand {x z : Int32} (r : Rch l Z n0 R y bytes mx rt D h k n pc Ls (.int z :: .int x :: st)) (hd : decode bytes pc = .ok (.iand, 1)) : Rch l Z n0 R y bytes mx rt D h k n (pc + 1) Ls (.int (x &&& z) :: st) := r.go fun X hx b _ _ _ t q => XS.iand X.here hx rfl (hb b hd) rfl q
theorem ior {x z : Int32} (r : Rch l Z n0 R y bytes mx rt D h k n pc Ls (.int z :: .int x :: st)) (hd : decode bytes pc = .ok (.ior, 1)) : Rch l Z n0 R y bytes mx rt D h k n (pc + 1) Ls (.int (x ||| z) :: st) := r.go fun X hx b _ _ _ t q => XS.ior X.here hx rfl (hb b hd) rfl q
theorem ixor {x z : Int32} (r : Rch l Z n0 R y bytes mx rt D h k n pc Ls (.int z :: .int x :: st)) (hd : decode bytes pc = .ok (.ixor, 1)) : Rch l Z n0 R y bytes mx rt D h k n (pc + 1) Ls (.int (x ^^^ z) :: st) := r.go fun X hx b _ _ _ t q => XS.ixor X.here hx rfl (hb b hd) rfl q
theorem ishl {x z : Int32} (r : Rch l Z n0 R y bytes mx rt D h k n pc Ls (.int z :: .int x :: st)) (hd : decode bytes pc = .ok (.ishl, 1)) : Rch l Z n0 R y bytes mx rt D h k n (pc + 1) Ls (.int (ishlW x z) :: st) := r.go fun X hx b _ _ _ t q => XS.ishl X.here hx rfl (hb b hd) rfl q
theorem ishr {x z : Int32} (r : Rch l Z n0 R y bytes mx rt D h k n pc Ls (.int z :: .int x :: st)) (hd : decode bytes pc = .ok (.ishr, 1)) : Rch l Z n0 R y bytes mx rt D h k n (pc + 1) Ls (.int (ishrW x z) :: st) := r.go fun X hx b _ _ _ t q => XS.ishr X.here hx rfl (hb b hd) rfl q
theorem iushr {x z : Int32} (r : Rch l Z n0 R y bytes mx rt D h k n pc Ls (.int z :: .int x :: st)) (hd : decode bytes pc = .ok (.iushr, 1)) : Rch l Z n0 R y bytes mx rt D h k n (pc + 1) Ls (.int (iushrW x z) :: st) := r.go fun X hx b _ _ _ t q => XS.iushr X.here hx rfl (hb b hd) rfl q
theorem idiv {x z : Int32} (r : Rch l Z n0 R y bytes mx rt D h k n pc Ls (.int z :: .int x :: st)) (hd : decode bytes pc = .ok (.idiv, 1)) (hz : z ≠ 0) : Rch l Z n0 R y bytes mx rt D h k n (pc + 1) Ls (.int (x / z) :: st) := r.go fun X hx b _ _ _ t q => XS.idiv X.here hx rfl (hb b hd) rfl hz q
theorem irem {x z : Int32} (r : Rch l Z n0 R y bytes mx rt D h k n pc Ls (.int z :: .int x :: st)) (hd : decode bytes pc = .ok (.irem, 1)) (hz : z ≠ 0) : Rch l Z n0 R y bytes mx rt D h k n (pc + 1) Ls (.int (x % z) :: st) := r.go fun X hx b _ _ _ t q => iremM X hx rfl (hb b hd) rfl hz q
theorem ineg {x : Int32} (r : Rch l Z n0 R y bytes mx rt D h k n pc Ls (.int x :: st)) (hd : decode bytes pc = .ok (.ineg, 1)) : Rch l Z n0 R y bytes mx rt D h k n (pc + 1) Ls (.int (-x) :: st) := r.go fun X hx b _ _ _ t q => XS.ineg X.here hx rfl (hb b hd) rfl q
theorem ladd {x z : Int64} (r : Rch l Z n0 R y bytes mx rt D h k n pc Ls (.long z :: .long x :: st)) (hd : decode bytes pc = .ok (.ladd, 1)) : Rch l Z n0 R y bytes mx rt D h k n (pc + 1) Ls (.long (x + z) :: st) := r.go fun X hx b _ _ _ t q => XS.ladd X.here hx rfl (hb b hd) rfl q
theorem lsub {x z : Int64} (r : Rch l Z n0 R y bytes mx rt D h k n pc Ls (.long z :: .long x :: st)) (hd : decode bytes pc = .ok (.lsub, 1)) : Rch l Z n0 R y bytes mx rt D h k n (pc + 1) Ls (.long (x - z) :: st) := r.go fun X hx b _ _ _ t q => XS.lsub X.here hx rfl (hb b hd) rfl q
theorem lmul {x z : Int64} (r : Rch l Z n0 R y bytes mx rt D h k n pc Ls (.long z :: .long x :: st)) (hd : decode bytes pc = .ok (.lmul, 1)) : Rch l Z n0 R y bytes mx rt D h k n (pc + 1) Ls (.long (x * z) :: st) := r.go fun X hx b _ _ _ t q => XS.lmul X.here hx rfl (hb b hd) rfl q
theorem land {x z : Int64} (r : Rch l Z n0 R y bytes mx rt D h k n pc Ls (.long z :: .long x :: st)) (hd : decode bytes pc = .ok (.land, 1)) : Rch l Z n0 R y bytes mx rt D h k n (pc + 1) Ls (.long (x &&& z) :: st) := r.go fun X hx b _ _ _ t q => XS.land X.here hx rfl (hb b hd) rfl q
theorem lor {x z : Int64} (r : Rch l Z n0 R y bytes mx rt D h k n pc Ls (.long z :: .long x :: st)) (hd : decode bytes pc = .ok (.lor, 1)) : Rch l Z n0 R y bytes mx rt D h k n (pc + 1) Ls (.long (x ||| z) :: st) := r.go fun X hx b _ _ _ t q => XS.lor X.here hx rfl (hb b hd) rfl q
theorem lxor {x z : Int64} (r : Rch l Z n0 R y bytes mx rt D h k n pc Ls (.long z :: .long x :: st)) (hd : decode bytes pc = .ok (.lxor, 1)) : Rch l Z n0 R y bytes mx rt D h k n (pc + 1) Ls (.long (x ^^^ z) :: st) := r.go fun X hx b _ _ _ t q => XS.lxor X.here hx rfl (hb b hd) rfl q
theorem ldiv {x z : Int64} (r : Rch l Z n0 R y bytes mx rt D h k n pc Ls (.long z :: .long x :: st)) (hd : decode bytes pc = .ok (.ldiv, 1)) (hz : z ≠ 0) : Rch l Z n0 R y bytes mx rt D h k n (pc + 1) Ls (.long (x / z) :: st) := r.go fun X hx b _ _ _ t q => XS.ldiv X.here hx rfl (hb b hd) rfl hz q
theorem lrem {x z : Int64} (r : Rch l Z n0 R y bytes mx rt D h k n pc Ls (.long z :: .long x :: st)) (hd : decode bytes pc = .ok (.lrem, 1)) (hz : z ≠ 0) : Rch l Z n0 R y bytes mx rt D h k n (pc + 1) Ls (.long (lremW x z) :: st) := r.go fun X hx b _ _ _ t q => XS.lrem X.here hx rfl (hb b hd) rfl hz q
theorem lcmp {x z : Int64} (r : Rch l Z n0 R y bytes mx rt D h k n pc Ls (.long z :: .long x :: st)) (hd : decode bytes pc = .ok (.lcmp, 1)) : Rch l Z n0 R y bytes mx rt D h k n (pc + 1) Ls (.int (XT.cmpL x z) :: st) := r.go fun X hx b _ _ _ t q => XT.lcmp X.here hx rfl (hb b hd) rfl q
theorem lneg {x : Int64} (r : Rch l Z n0 R y bytes mx rt D h k n pc Ls (.long x :: st)) (hd : decode bytes pc = .ok (.lneg, 1)) : Rch l Z n0 R y bytes mx rt D h k n (pc + 1) Ls (.long (-x) :: st) := r.go fun X hx b _ _ _ t q => XS.lneg X.here hx rfl (hb b hd) rfl q
theorem lshl {x : Int64} {z : Int32} (r : Rch l Z n0 R y bytes mx rt D h k n pc Ls (.int z :: .long x :: st)) (hd : decode bytes pc = .ok (.lshl, 1)) : Rch l Z n0 R y bytes mx rt D h k n (pc + 1) Ls (.long (lshlW x z) :: st) := r.go fun X hx b _ _ _ t q => XS.lshl X.here hx rfl (hb b hd) rfl q
theorem lshr {x : Int64} {z : Int32} (r : Rch l Z n0 R y bytes mx rt D h k n pc Ls (.int z :: .long x :: st)) (hd : decode bytes pc = .ok (.lshr, 1)) : Rch l Z n0 R y bytes mx rt D h k n (pc + 1) Ls (.long (lshrW x z) :: st) := r.go fun X hx b _ _ _ t q => XS.lshr X.here hx rfl (hb b hd) rfl q
theorem lushr {x : Int64} {z : Int32} (r : Rch l Z n0 R y bytes mx rt D h k n pc Ls (.int z :: .long x :: st)) (hd : decode bytes pc = .ok (.lushr, 1)) : Rch l Z n0 R y bytes mx rt D h k n (pc + 1) Ls (.long (lushrW x z) :: st) := r.go fun X hx b _ _ _ t q => XS.lushr X.here hx rfl (hb b hd) rfl q
theorem i2l {x : Int32} (r : Rch l Z n0 R y bytes mx rt D h k n pc Ls (.int x :: st)) (hd : decode bytes pc = .ok (.i2l, 1)) : Rch l Z n0 R y bytes mx rt D h k n (pc + 1) Ls (.long x.toInt64 :: st) := r.go fun X hx b _ _ _ t q => XS.i2l X.here hx rfl (hb b hd) rfl q
theorem l2i {x : Int64} (r : Rch l Z n0 R y bytes mx rt D h k n pc Ls (.long x :: st)) (hd : decode bytes pc = .ok (.l2i, 1)) : Rch l Z n0 R y bytes mx rt D h k n (pc + 1) Ls (.int x.toInt32 :: st) := r.go fun X hx b _ _ _ t q => XS.l2i X.here hx rfl (hb b hd) rfl q
theorem i2b {x : Int32} (r : Rch l Z n0 R y bytes mx rt D h k n pc Ls (.int x :: st)) (hd : decode bytes pc = .ok (.i2b, 1)) : Rch l Z n0 R y bytes mx rt D h k n (pc + 1) Ls (.int (i2bW x) :: st) := r.go fun X hx b _ _ _ t q => XS.i2b X.here hx rfl (hb b hd) rfl q
theorem i2c {x : Int32} (r : Rch l Z n0 R y bytes mx rt D h k n pc Ls (.int x :: st)) (hd : decode bytes pc = .ok (.i2c, 1)) : Rch l Z n0 R y bytes mx rt D h k n (pc + 1) Ls (.int (i2cW x) :: st) := r.go fun X hx b _ _ _ t q => XS.i2c X.here hx rfl (hb b hd) rfl q
theorem i2s {x : Int32} (r : Rch l Z n0 R y bytes mx rt D h k n pc Ls (.int x :: st)) (hd : decode bytes pc = .ok (.i2s, 1)) : Rch l Z n0 R y bytes mx rt D h k n (pc + 1) Ls (.int (i2sW x) :: st) := r.go fun X hx b _ _ _ t q => XS.i2s X.here hx rfl (hb b hd) rfl q
theorem iinc {i : Nat} {cst : Int} {x v : Int32} {L' : Array Slot} (r : Rch l Z n0 R y bytes mx rt D h k n pc Ls st) (hd : decode bytes pc = .ok (.iinc i cst, 3)) (hl : Ls[i]? = some (.val (.int x))) (hv : Int32.ofInt cst = v) (hl' : storeLocals Ls i (.int (x + v)) = some L') : Rch l Z n0 R y bytes mx rt D h k n (pc + 3) L' st := by subst hv; exact r.go fun X hx b _ _ _ t q => XS.iinc X.here hx rfl (hb b hd) hl hl' q
theorem istoreS {x : Int32} {i : Nat} {o : Slot} (r : Rch l Z n0 R y bytes mx rt D h k n pc Ls (.int x :: st)) (hd : decode bytes pc = .ok (.istore i, 2)) (hold : Ls[i]? = some o) (ho : o = .unset ∨ ∃ w, o = .val w ∧ w.category = 1) : Rch l Z n0 R y bytes mx rt D h k n (pc + 2) (Ls.setIfInBounds i (.val (.int x))) st := r.go fun X hx b _ _ _ t q => XS.istoreS X.here hx rfl (hb b hd) rfl hold ho q
theorem istoreNS {x : Int32} {i : Fin 4} {o : Slot} (r : Rch l Z n0 R y bytes mx rt D h k n pc Ls (.int x :: st)) (hd : decode bytes pc = .ok (.istore_n i, 1)) (hold : Ls[i.val]? = some o) (ho : o = .unset ∨ ∃ w, o = .val w ∧ w.category = 1) : Rch l Z n0 R y bytes mx rt D h k n (pc + 1) (Ls.setIfInBounds i.val (.val (.int x))) st := r.go fun X hx b _ _ _ t q => XS.istoreNS X.here hx rfl (hb b hd) rfl hold ho q
theorem astoreS {x : Value} {i : Nat} {o : Slot} (r : Rch l Z n0 R y bytes mx rt D h k n pc Ls (x :: st)) (hd : decode bytes pc = .ok (.astore i, 2)) (hv : x.isRef = true) (hold : Ls[i]? = some o) (ho : o = .unset ∨ ∃ w, o = .val w ∧ w.category = 1) : Rch l Z n0 R y bytes mx rt D h k n (pc + 2) (Ls.setIfInBounds i (.val x)) st := r.go fun X hx b _ _ _ t q => XS.astoreS X.here hx rfl (hb b hd) rfl hv (XT.cat1 hv) hold ho q
theorem astoreNS {x : Value} {i : Fin 4} {o : Slot} (r : Rch l Z n0 R y bytes mx rt D h k n pc Ls (x :: st)) (hd : decode bytes pc = .ok (.astore_n i, 1)) (hv : x.isRef = true) (hold : Ls[i.val]? = some o) (ho : o = .unset ∨ ∃ w, o = .val w ∧ w.category = 1) : Rch l Z n0 R y bytes mx rt D h k n (pc + 1) (Ls.setIfInBounds i.val (.val x)) st := r.go fun X hx b _ _ _ t q => XT.astoreNS X.here hx rfl (hb b hd) rfl hv (XT.cat1 hv) hold ho q
/-! branches -/
theorem goto {o : Int} {pc' : Nat} (r : Rch l Z n0 R y bytes mx rt D h k n pc Ls st) (hd : decode bytes pc = .ok (.goto o, 3)) (ho : 0 ≤ (pc : Int) + o) (hp : ((pc : Int) + o).toNat = pc') : Rch l Z n0 R y bytes mx rt D h k n pc' Ls st := r.go fun X hx b _ _ _ t q => XS.goto X.here hx rfl (pc0 := pc) rfl (hb b hd) ho hp q
theorem ifYes {cd : ClassFile.Cond} {x : Int32} {o : Int} {pc' : Nat} (r : Rch l Z n0 R y bytes mx rt D h k n pc Ls (.int x :: st)) (hd : decode bytes pc = .ok (.ifCond cd o, 3)) (hc : ifCond.holds cd x = true) (ho : 0 ≤ (pc : Int) + o) (hp : ((pc : Int) + o).toNat = pc') : Rch l Z n0 R y bytes mx rt D h k n pc' Ls st := r.go fun X hx b _ _ _ t q => XS.ifYes X.here hx rfl (pc0 := pc) rfl (hb b hd) rfl hc ho hp q
theorem ifNo {cd : ClassFile.Cond} {x : Int32} {o : Int} (r : Rch l Z n0 R y bytes mx rt D h k n pc Ls (.int x :: st)) (hd : decode bytes pc = .ok (.ifCond cd o, 3)) (hc : ifCond.holds cd x = false) : Rch l Z n0 R y bytes mx rt D h k n (pc + 3) Ls st := r.go fun X hx b _ _ _ t q => XS.ifNo X.here hx rfl (hb b hd) rfl hc q
theorem icmpYes {cd : ClassFile.Cond} {x z : Int32} {o : Int} {pc' : Nat} (r : Rch l Z n0 R y bytes mx rt D h k n pc Ls (.int z :: .int x :: st)) (hd : decode bytes pc = .ok (.if_icmp cd o, 3)) (hc : if_icmp.holds cd x z = true) (ho : 0 ≤ (pc : Int) + o) (hp : ((pc : Int) + o).toNat = pc') : Rch l Z n0 R y bytes mx rt D h k n pc' Ls st := r.go fun X hx b _ _ _ t q => XS.icmpYes X.here hx rfl (pc0 := pc) rfl (hb b hd) rfl hc ho hp q
theorem icmpNo {cd : ClassFile.Cond} {x z : Int32} {o : Int} (r : Rch l Z n0 R y bytes mx rt D h k n pc Ls (.int z :: .int x :: st)) (hd : decode bytes pc = .ok (.if_icmp cd o, 3)) (hc : if_icmp.holds cd x z = false) : Rch l Z n0 R y bytes mx rt D h k n (pc + 3) Ls st := r.go fun X hx b _ _ _ t q => XS.icmpNo X.here hx rfl (hb b hd) rfl hc q
theorem ifnullYes {o : Int} {pc' : Nat} (r : Rch l Z n0 R y bytes mx rt D h k n pc Ls (.null :: st)) (hd : decode bytes pc = .ok (.ifnull o, 3)) (ho : 0 ≤ (pc : Int) + o) (hp : ((pc : Int) + o).toNat = pc') : Rch l Z n0 R y bytes mx rt D h k n pc' Ls st := r.go fun X hx b _ _ _ t q => XS.ifnullYes X.here hx rfl (pc0 := pc) rfl (hb b hd) rfl ho hp q
theorem ifnullNo {o : Int} {a : Addr} (r : Rch l Z n0 R y bytes mx rt D h k n pc Ls (.ref a :: st)) (hd : decode bytes pc = .ok (.ifnull o, 3)) : Rch l Z n0 R y bytes mx rt D h k n (pc + 3) Ls st := r.go fun X hx b _ _ _ t q => XS.ifnullNo X.here hx rfl (hb b hd) rfl q
theorem ifnonnullYes {o : Int} {a : Addr} {pc' : Nat} (r : Rch l Z n0 R y bytes mx rt D h k n pc Ls (.ref a :: st)) (hd : decode bytes pc = .ok (.ifnonnull o, 3)) (ho : 0 ≤ (pc : Int) + o) (hp : ((pc : Int) + o).toNat = pc') : Rch l Z n0 R y bytes mx rt D h k n pc' Ls st := r.go fun X hx b _ _ _ t q => XS.ifnonnullYes X.here hx rfl (pc0 := pc) rfl (hb b hd) rfl ho hp q
theorem ifnonnullNo {o : Int} (r : Rch l Z n0 R y bytes mx rt D h k n pc Ls (.null :: st)) (hd : decode bytes pc = .ok (.ifnonnull o, 3)) : Rch l Z n0 R y bytes mx rt D h k n (pc + 3) Ls st := r.go fun X hx b _ _ _ t q => XS.ifnonnullNo X.here hx rfl (hb b hd) rfl q
theorem acmp {cd : ClassFile.ACond} {x z : Value} {o : Int} {pc' : Nat} {same : Bool} (r : Rch l Z n0 R y bytes mx rt D h k n pc Ls (z :: x :: st)) (hd : decode bytes pc = .ok (.if_acmp cd o, 3)) (h1 : x.isRef = true) (h2 : z.isRef = true) (hq : decide (x = z) = same) (ho : 0 ≤ (pc : Int) + o) (hp : pc' = if acV cd same = true then ((pc : Int) + o).toNat else pc + 3) : Rch l Z n0 R y bytes mx rt D h k n pc' Ls st := r.go fun X hx b _ _ _ t q => Jvm.RoadKit.acmp X hx rfl h1 h2 (pc0 := pc) rfl (hb b hd) rfl hq ho hp q
/-! constants, fields, new cells -/
theorem ldcI {index : Nat} {v : Int32} (r : Rch l Z n0 R y bytes mx rt D h k n pc Ls st) (hd : decode bytes pc = .ok (.ldc index, 2)) (w : (Jvm.Cond.constant y.cls index v).before a0 Z = true) : Rch l Z n0 R y bytes mx rt D h k n (pc + 2) Ls (.int v :: st) := r.go fun X hx b hZ ho _ t q => X.ldcInt hx ho (mvT hZ w) (g := mkF _ pc Ls st) rfl (hb b hd) t q
theorem ldcJ {index : Nat} {v : Int64} (r : Rch l Z n0 R y bytes mx rt D h k n pc Ls st) (hd : decode bytes pc = .ok (.ldc2_w index, 3)) (w : (Jvm.Cond.constantLong y.cls index v).before a0 Z = true) : Rch l Z n0 R y bytes mx rt D h k n (pc + 3) Ls (.long v :: st) := r.go fun X hx b hZ ho _ t q => X.ldc2Long hx ho (mvT hZ w) (g := mkF _ pc Ls st) rfl (hb b hd) t q
theorem ldcWI {index : Nat} {v : Int32} (r : Rch l Z n0 R y bytes mx rt D h k n pc Ls st) (hd : decode bytes pc = .ok (.ldc_w index, 3)) (w : (Jvm.Cond.constant y.cls index v).before a0 Z = true) : Rch l Z n0 R y bytes mx rt D h k n (pc + 3) Ls (.int v :: st) := r.go fun X hx b hZ ho _ t q => X.ldcwInt hx ho (mvT hZ w) (g := mkF _ pc Ls st) rfl (hb b hd) t q
theorem getfield {R0 O nm d host : String} {index : Nat} {a : Addr} {v : Value} (r : Rch l Z n0 R y bytes mx rt D h k n pc Ls (.ref a :: st)) (hd : decode bytes pc = .ok (.getfield index, 3)) (w : (Jvm.Cond.fieldLink y.cls index R0 nm d).before a0 Z = true ∨ (Jvm.Cond.fieldLinkNest y.cls index R0 nm d host).before a0 Z = true) (via : Via Z R0 O nm d) (F : Fld Z h a O nm d v) : Rch l Z n0 R y bytes mx rt D h k n (pc + 3) Ls (v :: st) := by
  obtain ⟨h', rfl, r'⟩ := r.mv (P := fun h' => h = h') (st' := fun _ => v :: st) (k' := k) (n' := n) (pc' := pc + 3) (Ls' := Ls) fun X hx b _ _ hZ ho eT N => by
    obtain ⟨T', X', e', s'⟩ := getF X hx hZ ho w via eT F (g := mkF _ pc Ls (.ref a :: st)) rfl rfl (hb b hd)
    exact ⟨T', h, _, X', e', rfl, N, s' _ (Steps.refl _)⟩
  exact r'
theorem getstatic {R0 O nm d : String} {index : Nat} {v : Value} (r : Rch l Z n0 R y bytes mx rt D h k n pc Ls st) (hd : decode bytes pc = .ok (.getstatic index, 3)) (w : (Jvm.Cond.fieldLink y.cls index R0 nm d).before a0 Z = true) (via : Via Z R0 O nm d) (F : Sta Z h O nm d v) : Rch l Z n0 R y bytes mx rt D h k n (pc + 3) Ls (v :: st) := by
  obtain ⟨h', rfl, r'⟩ := r.mv (P := fun h' => h = h') (st' := fun _ => v :: st) (k' := k) (n' := n) (pc' := pc + 3) (Ls' := Ls) fun X hx b _ _ hZ ho eT N => by
    obtain ⟨T', X', e', s'⟩ := getS X hx hZ (host := "") ho w via eT F (g := mkF _ pc Ls st) rfl (hb b hd)
    exact ⟨T', h, _, X', e', rfl, N, s' _ (Steps.refl _)⟩
  exact r'
theorem putfield {R0 O nm d host C : String} {index kk : Nat} {ty : FieldType} {a : Addr} {v old : Value} (r : Rch l Z n0 R y bytes mx rt D h k n pc Ls (v :: .ref a :: st)) (hd : decode bytes pc = .ok (.putfield index, 3)) (w : (Jvm.Cond.fieldLink y.cls index R0 nm d).before a0 Z = true ∨ (Jvm.Cond.fieldLinkNest y.cls index R0 nm d host).before a0 Z = true) (via : Via Z R0 O nm d) (F : Fld Z h a O nm d old) (E : Exa Z h a C)
    (L : (Jvm.Cond.lays C O nm d).before a0 Z = true ∨ ((Jvm.Cond.laysFinal C O nm d).before a0 Z = true ∧ y.cls = O ∧ y.name = "<init>")) (wi : (Jvm.Cond.instantiable C kk).before a0 Z = true) (hty : parseFieldDescriptor d = some ty) (hn : narrow ty v = v) (hf : fits ty v = true) (hg : n0 ≤ a) :
    ∃ h', Wr h h' a (Jvm.RoadKit.slotOf Z O nm d) v ∧ Rch l Z n0 R y bytes mx rt D h' k n (pc + 3) Ls st :=
  r.mv (P := fun h' => Wr h h' a (Jvm.RoadKit.slotOf Z O nm d) v) (st' := fun _ => st) fun X hx b _ hnm hZ ho eT N => by
    obtain ⟨T', h', X', e', W, s'⟩ := putF X hx hZ ho w via eT F E (L.imp id fun q => ⟨q.1, q.2.1, hnm.trans q.2.2⟩) wi hty hn hf (g := mkF _ pc Ls (v :: .ref a :: st)) rfl rfl (hb b hd)
    exact ⟨T', h', _, X', e', W, Fr.snoc X' N hg, s' _ (Steps.refl _)⟩
theorem newObj {C : String} {index nn : Nat} (r : Rch l Z n0 R y bytes mx rt D h k n pc Ls st) (hd : decode bytes pc = .ok (.new index, 3)) (w : (Jvm.Cond.classLink y.cls index C).before a0 Z = true) (wi : (Jvm.Cond.instantiable C nn).before a0 Z = true) (wz : (Jvm.Cond.initialized C).before a0 Z = true) (hc : k + 1 ≤ R.cells) (hl : n + nn ≤ R.slots) :
    ∃ h', (Ext h h' ∧ Exa Z h' h.size C ∧ ∀ {O nm d : String} {ty : FieldType}, Laid Z a0 C O nm d → parseFieldDescriptor d = some ty → Fld Z h' h.size O nm d (defaultValue ty)) ∧ Rch l Z n0 R y bytes mx rt D h' (k + 1) (n + nn) (pc + 3) Ls (.ref h.size :: st) :=
  r.mv (P := fun h' => Ext h h' ∧ Exa Z h' h.size C ∧ ∀ {O nm d : String} {ty : FieldType}, Laid Z a0 C O nm d → parseFieldDescriptor d = some ty → Fld Z h' h.size O nm d (defaultValue ty)) (st' := fun _ => .ref h.size :: st) fun X hx b _ _ hZ ho eT N => by
    obtain ⟨T', h', X', e', E', A', D', -, s'⟩ := newO X hx hZ ho w wi wz eT (g := mkF _ pc Ls st) rfl (hb b hd) hc hl
    exact ⟨T', h', _, X', e', ⟨E', A', D'⟩, N, s' _ (Steps.refl _)⟩
theorem initObj {index : Nat} {a : Addr} {W : Nat} (r : Rch l Z n0 R y bytes mx rt D h k n pc Ls (.ref a :: st)) (hd : decode bytes pc = .ok (.invokespecial index, 3)) (w1 : (Jvm.Cond.methodLink y.cls index Lib.objectInit).before a0 Z = true) (w2 : (Jvm.Cond.instanceMethod Lib.objectInit).before a0 Z = true) (w3 : (Jvm.Cond.code Lib.objectInit ⟨#[0xb1]⟩ 1 none).before a0 Z = true) (hsz : Ls.size = mx) (hf : 1 ≤ R.frames) (hW : (st.map fun v => v.category).sum ≤ W) (hl : W + 12 ≤ R.locals) : Rch l Z n0 R y bytes mx rt D h k n (pc + 3) Ls st := by
  obtain ⟨h', rfl, r'⟩ := r.mv (P := fun h' => h = h') (st' := fun _ => st) (k' := k) (n' := n) (pc' := pc + 3) (Ls' := Ls) fun X hx b hml _ hZ ho eT N => by
    obtain ⟨T', X', e', s'⟩ := initO X hx hZ ho w1 w2 w3 eT (g := mkF _ pc Ls (.ref a :: st)) rfl (hsz.trans hml.symm) rfl (hb b hd) hf (W := W) (by show 2 * 0 + _ ≤ _; omega) hl
    exact ⟨T', h, _, X', e', rfl, N, s' _ (Steps.refl _)⟩
  exact r'
theorem instYes {K : String} {index : Nat} {a : Addr} (r : Rch l Z n0 R y bytes mx rt D h k n pc Ls (.ref a :: st)) (hd : decode bytes pc = .ok (.instanceof index, 3)) (w : (Jvm.Cond.classLink y.cls index K).before a0 Z = true) (F : Ins Z h a K true) : Rch l Z n0 R y bytes mx rt D h k n (pc + 3) Ls (.int 1 :: st) := by
  obtain ⟨h', rfl, r'⟩ := r.mv (P := fun h' => h = h') (st' := fun _ => .int 1 :: st) (k' := k) (n' := n) (pc' := pc + 3) (Ls' := Ls) fun X hx b _ _ hZ ho eT N => by
    obtain ⟨T', X', e', s'⟩ := instY X hx hZ ho w eT F (g := mkF _ pc Ls (.ref a :: st)) rfl rfl (hb b hd)
    exact ⟨T', h, _, X', e', rfl, N, s' _ (Steps.refl _)⟩
  exact r'
theorem instNo {K C : String} {index : Nat} {a : Addr} (r : Rch l Z n0 R y bytes mx rt D h k n pc Ls (.ref a :: st)) (hd : decode bytes pc = .ok (.instanceof index, 3)) (w : (Jvm.Cond.classLink y.cls index K).before a0 Z = true) (E : Exa Z h a C) (F : ∃ c t, Z.vm.findClass C = some c ∧ Z.vm.findClass K = some t ∧ Z.vm.assignable c t = false) : Rch l Z n0 R y bytes mx rt D h k n (pc + 3) Ls (.int 0 :: st) := by
  obtain ⟨h', rfl, r'⟩ := r.mv (P := fun h' => h = h') (st' := fun _ => .int 0 :: st) (k' := k) (n' := n) (pc' := pc + 3) (Ls' := Ls) fun X hx b _ _ hZ ho eT N => by
    obtain ⟨T', X', e', s'⟩ := Jvm.RoadKit.instNo X hx hZ ho w eT E F (g := mkF _ pc Ls (.ref a :: st)) rfl rfl (hb b hd)
    exact ⟨T', h, _, X', e', rfl, N, s' _ (Steps.refl _)⟩
  exact r'
theorem instNull {index : Nat} (r : Rch l Z n0 R y bytes mx rt D h k n pc Ls (.null :: st)) (hd : decode bytes pc = .ok (.instanceof index, 3)) : Rch l Z n0 R y bytes mx rt D h k n (pc + 3) Ls (.int 0 :: st) := r.go fun X hx b _ _ _ t q => X.instanceofNull hx (g := mkF _ pc Ls (.null :: st)) rfl rfl (hb b hd) t q
theorem castYes {K : String} {index : Nat} {a : Addr} (r : Rch l Z n0 R y bytes mx rt D h k n pc Ls (.ref a :: st)) (hd : decode bytes pc = .ok (.checkcast index, 3)) (w : (Jvm.Cond.classLink y.cls index K).before a0 Z = true) (F : Ins Z h a K true) : Rch l Z n0 R y bytes mx rt D h k n (pc + 3) Ls (.ref a :: st) := by
  obtain ⟨h', rfl, r'⟩ := r.mv (P := fun h' => h = h') (st' := fun _ => .ref a :: st) (k' := k) (n' := n) (pc' := pc + 3) (Ls' := Ls) fun X hx b _ _ hZ ho eT N => by
    obtain ⟨T', X', e', s'⟩ := castY X hx hZ ho w eT F (g := mkF _ pc Ls (.ref a :: st)) rfl rfl (hb b hd)
    exact ⟨T', h, _, X', e', rfl, N, s' _ (Steps.refl _)⟩
  exact r'
theorem aaload {a : Addr} {c : Cell} {ty : FieldType} {j : Int32} {v : Value} (r : Rch l Z n0 R y bytes mx rt D h k n pc Ls (.int j :: .ref a :: st)) (hd : decode bytes pc = .ok (.aaload, 1)) (A : Arr Z h a c ty) (ht : ty.isReference = true) (hi : ¬ (j < 0 ∨ c.slots.size ≤ j.toNatClampNeg)) (hv : c.slots[j.toNatClampNeg]? = some v) : Rch l Z n0 R y bytes mx rt D h k n (pc + 1) Ls (v :: st) :=
  r.go fun X hx b hZ _ eT t q => X.aaload hx (j := j) (v := v) (by rw [eT]; exact A.1) (State.isArrayOf_alike hZ.alike A.2.1) ht A.2.2 hi hv (g := mkF _ pc Ls (.int j :: .ref a :: st)) rfl rfl (hb b hd) t q
/-! arrays: their elements as a list -/
def VA (Z : State) (h : Heap) (a : Addr) (ty : FieldType) (vs : List Value) : Prop := ∃ c : Cell, Arr Z h a c ty ∧ c.slots = vs.toArray ∧ vs.length < 2 ^ 31
section Facts
variable {a b : Addr} {ty : FieldType} {vs : List Value} {sl : Nat} {v : Value} {ws : List Addr}
theorem VA.lt (A : VA Z h a ty vs) : a < h.size := by obtain ⟨c, A, -⟩ := A; exact A.lt
theorem VA.len (A : VA Z h a ty vs) : vs.length < 2 ^ 31 := by obtain ⟨c, -, -, q⟩ := A; exact q
theorem VA.ext (A : VA Z h a ty vs) (E : Ext h h') : VA Z h' a ty vs := by obtain ⟨c, A, r⟩ := A; exact ⟨c, A.ext E, r⟩
theorem VA.other (A : VA Z h b ty vs) (W : Wr h h' a sl v) (q : b ≠ a) : VA Z h' b ty vs := by obtain ⟨c, A, r⟩ := A; exact ⟨c, A.other W q, r⟩
theorem VA.keep (A : VA Z h a ty vs) (K : Keep h h' ws) (q : a ∉ ws) : VA Z h' a ty vs := by obtain ⟨c, A, r⟩ := A; exact ⟨c, ⟨K.2.1 a c A.1 q, A.2⟩, r⟩
theorem VA.set (A : VA Z h a ty vs) (W : Wr h h' a sl v) : VA Z h' a ty (vs.set sl v) := by
  obtain ⟨c, A, e, q⟩ := A
  refine ⟨c.setSlot sl v, A.same W, ?_, by simpa using q⟩
  show c.slots.setIfInBounds sl v = _
  rw [e]; simp
theorem VA.new {cA : ClassId} {z : Int32} (A : Arr Z h a (newA cA ty z) ty) (q : ¬ z < 0) : VA Z h a ty (List.replicate z.toNatClampNeg (defaultValue ty)) := by
  refine ⟨_, A, ?_, ?_⟩
  · simp [newA]
  · rw [List.length_replicate]; exact (back32 q).2
theorem VA.inb (A : VA Z h a ty vs) {j : Int32} (hj : ¬ j < 0) (hlt : j.toNatClampNeg < vs.length) : ∃ c, Arr Z h a c ty ∧ c.slots = vs.toArray ∧ ¬ (j < 0 ∨ c.slots.size ≤ j.toNatClampNeg) := by
  obtain ⟨c, A, e, -⟩ := A
  exact ⟨c, A, e, fun q => q.elim hj fun q => by rw [e] at q; simp at q; omega⟩
theorem ne_lt {x z : Addr} {H : Heap} (p : x < H.size) (q : z = H.size) : x ≠ z := fun e => by rw [e, q] at p; exact Nat.lt_irrefl _ p
end Facts
theorem newArr {aty : ArrayType} {z : Int32} {cap : Nat} (r : Rch l Z n0 R y bytes mx rt D h k n pc Ls (.int z :: st)) (hd : decode bytes pc = .ok (.newarray aty, 2)) (w : (Jvm.Cond.arrayClass (newarray.typeOf aty)).before a0 Z = true) (hz : ¬ z < 0) (hcap : z.toNatClampNeg ≤ cap) (h8 : cap * 8 ≤ 536870912) (hc : k + 1 ≤ R.cells) (hl : n + cap ≤ R.slots) :
    ∃ h', (Ext h h' ∧ VA Z h' h.size (newarray.typeOf aty) (List.replicate z.toNatClampNeg (defaultValue (newarray.typeOf aty)))) ∧ Rch l Z n0 R y bytes mx rt D h' (k + 1) (n + cap) (pc + 2) Ls (.ref h.size :: st) :=
  r.mv (P := fun h' => Ext h h' ∧ VA Z h' h.size (newarray.typeOf aty) (List.replicate z.toNatClampNeg (defaultValue (newarray.typeOf aty)))) (st' := fun _ => .ref h.size :: st) fun X hx b _ _ hZ ho eT N => by
    obtain ⟨T', h', cA, X', e', E', A', s'⟩ := newP X hx hZ w eT (g := mkF _ pc Ls (.int z :: st)) rfl (hb b hd) rfl hz hcap h8 hc hl
    exact ⟨T', h', _, X', e', ⟨E', VA.new A' hz⟩, N, s' _ (Steps.refl _)⟩
theorem newRef {C : String} {index : Nat} {z : Int32} {cap : Nat} (r : Rch l Z n0 R y bytes mx rt D h k n pc Ls (.int z :: st)) (hd : decode bytes pc = .ok (.anewarray index, 3)) (w1 : (Jvm.Cond.classLink y.cls index C).before a0 Z = true) (w2 : (Jvm.Cond.arrayOver (.object C)).before a0 Z = true) (hz : ¬ z < 0) (hcap : z.toNatClampNeg ≤ cap) (h8 : cap * 8 ≤ 536870912) (hc : k + 1 ≤ R.cells) (hl : n + cap ≤ R.slots) :
    ∃ h', (Ext h h' ∧ VA Z h' h.size (.object C) (List.replicate z.toNatClampNeg .null)) ∧ Rch l Z n0 R y bytes mx rt D h' (k + 1) (n + cap) (pc + 3) Ls (.ref h.size :: st) :=
  r.mv (P := fun h' => Ext h h' ∧ VA Z h' h.size (.object C) (List.replicate z.toNatClampNeg .null)) (st' := fun _ => .ref h.size :: st) fun X hx b _ _ hZ ho eT N => by
    obtain ⟨T', h', cA, X', e', E', A', -, s'⟩ := newR X hx hZ ho w1 w2 eT (g := mkF _ pc Ls (.int z :: st)) rfl (hb b hd) rfl hz hcap h8 hc hl
    exact ⟨T', h', _, X', e', ⟨E', VA.new A' hz⟩, N, s' _ (Steps.refl _)⟩
theorem arrlen {a : Addr} {ty : FieldType} {vs : List Value} {z : Int32} (r : Rch l Z n0 R y bytes mx rt D h k n pc Ls (.ref a :: st)) (hd : decode bytes pc = .ok (.arraylength, 1)) (A : VA Z h a ty vs) (hz : vs.length.toInt32 = z) : Rch l Z n0 R y bytes mx rt D h k n (pc + 1) Ls (.int z :: st) := by
  subst hz
  obtain ⟨c, A, e, -⟩ := A
  have q : vs.length = c.slots.size := by rw [e]; simp
  rw [q]
  exact r.go fun X hx b hZ _ eT t q => X.arraylength hx (by rw [eT]; exact A.1) (State.isArrayOf_alike hZ.alike A.2.1) (g := mkF _ pc Ls (.ref a :: st)) rfl rfl (hb b hd) t q
theorem iaload {a : Addr} {vs : List Value} {j : Int32} {v : Value} (r : Rch l Z n0 R y bytes mx rt D h k n pc Ls (.int j :: .ref a :: st)) (hd : decode bytes pc = .ok (.iaload, 1)) (A : VA Z h a .int vs) (hj : ¬ j < 0) (hv : vs[j.toNatClampNeg]? = some v) : Rch l Z n0 R y bytes mx rt D h k n (pc + 1) Ls (v :: st) := by
  obtain ⟨c, A, e, hi⟩ := A.inb hj (List.getElem?_eq_some_iff.mp hv).1
  exact r.go fun X hx b hZ _ eT t q => X.iaload hx (j := j) (v := v) (by rw [eT]; exact A.1) (State.isArrayOf_alike hZ.alike A.2.1) A.2.2 hi (by rw [e]; simpa using hv) (g := mkF _ pc Ls (.int j :: .ref a :: st)) rfl rfl (hb b hd) t q
theorem laload {a : Addr} {vs : List Value} {j : Int32} {v : Value} (r : Rch l Z n0 R y bytes mx rt D h k n pc Ls (.int j :: .ref a :: st)) (hd : decode bytes pc = .ok (.laload, 1)) (A : VA Z h a .long vs) (hj : ¬ j < 0) (hv : vs[j.toNatClampNeg]? = some v) : Rch l Z n0 R y bytes mx rt D h k n (pc + 1) Ls (v :: st) := by
  obtain ⟨c, A, e, hi⟩ := A.inb hj (List.getElem?_eq_some_iff.mp hv).1
  exact r.go fun X hx b hZ _ eT t q => X.laload hx (j := j) (v := v) (by rw [eT]; exact A.1) (State.isArrayOf_alike hZ.alike A.2.1) A.2.2 hi (by rw [e]; simpa using hv) (g := mkF _ pc Ls (.int j :: .ref a :: st)) rfl rfl (hb b hd) t q
theorem caload {a : Addr} {vs : List Value} {j : Int32} {v : Value} (r : Rch l Z n0 R y bytes mx rt D h k n pc Ls (.int j :: .ref a :: st)) (hd : decode bytes pc = .ok (.caload, 1)) (A : VA Z h a .char vs) (hj : ¬ j < 0) (hv : vs[j.toNatClampNeg]? = some v) : Rch l Z n0 R y bytes mx rt D h k n (pc + 1) Ls (v :: st) := by
  obtain ⟨c, A, e, hi⟩ := A.inb hj (List.getElem?_eq_some_iff.mp hv).1
  exact r.go fun X hx b hZ _ eT t q => X.caload hx (j := j) (v := v) (by rw [eT]; exact A.1) (State.isArrayOf_alike hZ.alike A.2.1) A.2.2 hi (by rw [e]; simpa using hv) (g := mkF _ pc Ls (.int j :: .ref a :: st)) rfl rfl (hb b hd) t q
theorem baload {a : Addr} {vs : List Value} {j : Int32} {v : Value} (r : Rch l Z n0 R y bytes mx rt D h k n pc Ls (.int j :: .ref a :: st)) (hd : decode bytes pc = .ok (.baload, 1)) (A : VA Z h a .byte vs) (hj : ¬ j < 0) (hv : vs[j.toNatClampNeg]? = some v) : Rch l Z n0 R y bytes mx rt D h k n (pc + 1) Ls (v :: st) := by
  obtain ⟨c, A, e, hi⟩ := A.inb hj (List.getElem?_eq_some_iff.mp hv).1
  exact r.go fun X hx b hZ _ eT t q => X.baloadBytes hx (j := j) (v := v) (by rw [eT]; exact A.1) (State.isArrayOf_alike hZ.alike A.2.1) A.2.2 hi (by rw [e]; simpa using hv) (g := mkF _ pc Ls (.int j :: .ref a :: st)) rfl rfl (hb b hd) t q
theorem zaload {a : Addr} {vs : List Value} {j : Int32} {v : Value} (r : Rch l Z n0 R y bytes mx rt D h k n pc Ls (.int j :: .ref a :: st)) (hd : decode bytes pc = .ok (.baload, 1)) (A : VA Z h a .boolean vs) (hj : ¬ j < 0) (hv : vs[j.toNatClampNeg]? = some v) : Rch l Z n0 R y bytes mx rt D h k n (pc + 1) Ls (v :: st) := by
  obtain ⟨c, A, e, hi⟩ := A.inb hj (List.getElem?_eq_some_iff.mp hv).1
  exact r.go fun X hx b hZ _ eT t q => X.baloadBooleans hx (j := j) (v := v) (by rw [eT]; exact A.1) (State.isArrayOf_alike hZ.alike A.2.1) A.2.2 hi (by rw [e]; simpa using hv) (g := mkF _ pc Ls (.int j :: .ref a :: st)) rfl rfl (hb b hd) t q
theorem iastore {a : Addr} {vs : List Value} {j : Int32} {x : Int32} (r : Rch l Z n0 R y bytes mx rt D h k n pc Ls (.int x :: .int j :: .ref a :: st)) (hd : decode bytes pc = .ok (.iastore, 1)) (A : VA Z h a .int vs) (hj : ¬ j < 0) (hlt : j.toNatClampNeg < vs.length) (hg : n0 ≤ a) :
    ∃ h', (Wr h h' a j.toNatClampNeg (.int x) ∧ VA Z h' a .int (vs.set j.toNatClampNeg (.int x))) ∧ Rch l Z n0 R y bytes mx rt D h' k n (pc + 1) Ls st :=
  r.mv (P := fun h' => Wr h h' a j.toNatClampNeg (.int x) ∧ VA Z h' a .int (vs.set j.toNatClampNeg (.int x))) (st' := fun _ => st) fun X hx b _ _ hZ ho eT N => by
    obtain ⟨c, A', e, hi⟩ := A.inb hj hlt
    obtain ⟨T', h', X', e', W, s'⟩ := stI X hx hZ eT A' (j := j) hi (g := mkF _ pc Ls (.int x :: .int j :: .ref a :: st)) rfl rfl (hb b hd)
    exact ⟨T', h', _, X', e', ⟨W, A.set W⟩, Fr.snoc X' N hg, s' _ (Steps.refl _)⟩
theorem lastore {a : Addr} {vs : List Value} {j : Int32} {x : Int64} (r : Rch l Z n0 R y bytes mx rt D h k n pc Ls (.long x :: .int j :: .ref a :: st)) (hd : decode bytes pc = .ok (.lastore, 1)) (A : VA Z h a .long vs) (hj : ¬ j < 0) (hlt : j.toNatClampNeg < vs.length) (hg : n0 ≤ a) :
    ∃ h', (Wr h h' a j.toNatClampNeg (.long x) ∧ VA Z h' a .long (vs.set j.toNatClampNeg (.long x))) ∧ Rch l Z n0 R y bytes mx rt D h' k n (pc + 1) Ls st :=
  r.mv (P := fun h' => Wr h h' a j.toNatClampNeg (.long x) ∧ VA Z h' a .long (vs.set j.toNatClampNeg (.long x))) (st' := fun _ => st) fun X hx b _ _ hZ ho eT N => by
    obtain ⟨c, A', e, hi⟩ := A.inb hj hlt
    obtain ⟨T', h', X', e', W, s'⟩ := stJ X hx hZ eT A' (j := j) hi (g := mkF _ pc Ls (.long x :: .int j :: .ref a :: st)) rfl rfl (hb b hd)
    exact ⟨T', h', _, X', e', ⟨W, A.set W⟩, Fr.snoc X' N hg, s' _ (Steps.refl _)⟩
theorem castore {a : Addr} {vs : List Value} {j : Int32} {x : Int32} (r : Rch l Z n0 R y bytes mx rt D h k n pc Ls (.int x :: .int j :: .ref a :: st)) (hd : decode bytes pc = .ok (.castore, 1)) (A : VA Z h a .char vs) (hj : ¬ j < 0) (hlt : j.toNatClampNeg < vs.length) (hg : n0 ≤ a) :
    ∃ h', (Wr h h' a j.toNatClampNeg (.int (nar .char x)) ∧ VA Z h' a .char (vs.set j.toNatClampNeg (.int (nar .char x)))) ∧ Rch l Z n0 R y bytes mx rt D h' k n (pc + 1) Ls st :=
  r.mv (P := fun h' => Wr h h' a j.toNatClampNeg (.int (nar .char x)) ∧ VA Z h' a .char (vs.set j.toNatClampNeg (.int (nar .char x)))) (st' := fun _ => st) fun X hx b _ _ hZ ho eT N => by
    obtain ⟨c, A', e, hi⟩ := A.inb hj hlt
    obtain ⟨T', h', X', e', W, s'⟩ := stC X hx hZ eT A' (j := j) hi (g := mkF _ pc Ls (.int x :: .int j :: .ref a :: st)) rfl rfl (hb b hd)
    exact ⟨T', h', _, X', e', ⟨W, A.set W⟩, Fr.snoc X' N hg, s' _ (Steps.refl _)⟩
theorem bastore {a : Addr} {vs : List Value} {j : Int32} {x : Int32} (r : Rch l Z n0 R y bytes mx rt D h k n pc Ls (.int x :: .int j :: .ref a :: st)) (hd : decode bytes pc = .ok (.bastore, 1)) (A : VA Z h a .byte vs) (hj : ¬ j < 0) (hlt : j.toNatClampNeg < vs.length) (hg : n0 ≤ a) :
    ∃ h', (Wr h h' a j.toNatClampNeg (.int (nar .byte x)) ∧ VA Z h' a .byte (vs.set j.toNatClampNeg (.int (nar .byte x)))) ∧ Rch l Z n0 R y bytes mx rt D h' k n (pc + 1) Ls st :=
  r.mv (P := fun h' => Wr h h' a j.toNatClampNeg (.int (nar .byte x)) ∧ VA Z h' a .byte (vs.set j.toNatClampNeg (.int (nar .byte x)))) (st' := fun _ => st) fun X hx b _ _ hZ ho eT N => by
    obtain ⟨c, A', e, hi⟩ := A.inb hj hlt
    obtain ⟨T', h', X', e', W, s'⟩ := stB X hx hZ eT A' (j := j) hi (g := mkF _ pc Ls (.int x :: .int j :: .ref a :: st)) rfl rfl (hb b hd)
    exact ⟨T', h', _, X', e', ⟨W, A.set W⟩, Fr.snoc X' N hg, s' _ (Steps.refl _)⟩
theorem zastore {a : Addr} {vs : List Value} {j : Int32} {x : Int32} (r : Rch l Z n0 R y bytes mx rt D h k n pc Ls (.int x :: .int j :: .ref a :: st)) (hd : decode bytes pc = .ok (.bastore, 1)) (A : VA Z h a .boolean vs) (hj : ¬ j < 0) (hlt : j.toNatClampNeg < vs.length) (hg : n0 ≤ a) :
    ∃ h', (Wr h h' a j.toNatClampNeg (.int (nar .boolean x)) ∧ VA Z h' a .boolean (vs.set j.toNatClampNeg (.int (nar .boolean x)))) ∧ Rch l Z n0 R y bytes mx rt D h' k n (pc + 1) Ls st :=
  r.mv (P := fun h' => Wr h h' a j.toNatClampNeg (.int (nar .boolean x)) ∧ VA Z h' a .boolean (vs.set j.toNatClampNeg (.int (nar .boolean x)))) (st' := fun _ => st) fun X hx b _ _ hZ ho eT N => by
    obtain ⟨c, A', e, hi⟩ := A.inb hj hlt
    obtain ⟨T', h', X', e', W, s'⟩ := stZ X hx hZ eT A' (j := j) hi (g := mkF _ pc Ls (.int x :: .int j :: .ref a :: st)) rfl rfl (hb b hd)
    exact ⟨T', h', _, X', e', ⟨W, A.set W⟩, Fr.snoc X' N hg, s' _ (Steps.refl _)⟩
/-! the end -/
theorem Rch.ret0 (r : Rch l Z n0 R y bytes mx none D h k n pc Ls []) (hd : decode bytes pc = .ok (.return_, 1)) : Don l Z n0 R D h k n none := by
  obtain ⟨p, e, s, m, args, below, meth, c, s₁, g0⟩ := D
  obtain ⟨⟨hx, hbb, hml, ho, hZ, hr, hlk, hnm⟩, T, locs, X, eT, N, hs⟩ := r
  obtain ⟨fs, hl, hrun, hended, hW, hsame⟩ := X.leave (v := none) (fun _ => rfl) hlk
  exact ⟨T, locs, fs, X, eT, N, hs.trans (X.returnOut hx hr (hb hbb hd) hl), eT, hrun, hended, hW, hsame⟩
theorem Rch.retV {i : Instr} {t : FieldType} {w : Value} (r : Rch l Z n0 R y bytes mx (some t) D h k n pc Ls (w :: st)) (hd : decode bytes pc = .ok (i, 1)) (hn : narrow t w = w)
    (hi : (i = .ireturn ∧ (t = .int ∨ t = .boolean ∨ t = .byte ∨ t = .char ∨ t = .short) ∧ ∃ z, w = .int z) ∨ (i = .lreturn ∧ t = .long ∧ ∃ z, w = .long z) ∨ (i = .dreturn ∧ t = .double ∧ ∃ z, w = .double z) ∨ (i = .freturn ∧ t = .float ∧ ∃ z, w = .float z) ∨ (i = .areturn ∧ t.isReference = true ∧ w.isRef = true)) : Don l Z n0 R D h k n (some w) := by
  obtain ⟨p, e, s, m, args, below, meth, c, s₁, g0⟩ := D
  obtain ⟨⟨hx, hbb, hml, ho, hZ, hr, hlk, hnm⟩, T, locs, X, eT, N, hs⟩ := r
  obtain ⟨fs, hl, hrun, hended, hW, hsame⟩ := X.leave (v := some w) (fun q => by rw [hr] at q; cases q) hlk
  exact ⟨T, locs, fs, X, eT, N, hs.trans (retOut X hx hr hn hi (hb hbb hd) hl), eT, hrun, hended, hW, hsame⟩
theorem Rch.retI {z : Int32} (r : Rch l Z n0 R y bytes mx (some .int) D h k n pc Ls (.int z :: st)) (hd : decode bytes pc = .ok (.ireturn, 1)) : Don l Z n0 R D h k n (some (.int z)) := r.retV hd rfl (Or.inl ⟨rfl, Or.inl rfl, z, rfl⟩)
theorem Rch.retJ {z : Int64} (r : Rch l Z n0 R y bytes mx (some .long) D h k n pc Ls (.long z :: st)) (hd : decode bytes pc = .ok (.lreturn, 1)) : Don l Z n0 R D h k n (some (.long z)) := r.retV hd rfl (Or.inr (Or.inl ⟨rfl, rfl, z, rfl⟩))
theorem Rch.retZ {z : Int32} (r : Rch l Z n0 R y bytes mx (some .boolean) D h k n pc Ls (.int z :: st)) (hd : decode bytes pc = .ok (.ireturn, 1)) (hz : z &&& 1 = z) : Don l Z n0 R D h k n (some (.int z)) := r.retV hd (congrArg Value.int hz) (Or.inl ⟨rfl, Or.inr (Or.inl rfl), z, rfl⟩)
theorem Rch.retB {z : Int32} (r : Rch l Z n0 R y bytes mx (some .byte) D h k n pc Ls (.int z :: st)) (hd : decode bytes pc = .ok (.ireturn, 1)) (hz : z.toInt8.toInt32 = z) : Don l Z n0 R D h k n (some (.int z)) := r.retV hd (congrArg Value.int hz) (Or.inl ⟨rfl, Or.inr (Or.inr (Or.inl rfl)), z, rfl⟩)
theorem Rch.retA {t : FieldType} {w : Value} (r : Rch l Z n0 R y bytes mx (some t) D h k n pc Ls (w :: st)) (hd : decode bytes pc = .ok (.areturn, 1)) (ht : t.isReference = true) (hw : w.isRef = true) : Don l Z n0 R D h k n (some w) := r.retV hd (by rcases ref_cases hw with rfl | ⟨q, rfl⟩ <;> cases t <;> first | rfl | cases ht) (Or.inr (Or.inr (Or.inr (Or.inr ⟨rfl, ht, hw⟩))))
theorem Don.more {v : Option Value} (r : Don l Z n0 R D h k n v) {k' n' : Nat} (hk : k ≤ k') (hn : n ≤ n') : Don l Z n0 R D h k' n' v := by
  obtain ⟨p, e, s, m, args, below, meth, c, s₁, g0⟩ := D
  obtain ⟨T, locs, fs, X, eT, N, hs, hh, hrun, hend, hW, hsame⟩ := r
  exact ⟨T, locs, fs, X.more hk hn, eT, N, hs, hh, hrun, hend, hW, hsame.mono hk hn⟩
/-! calls -/
section Calls
variable {index : Nat} {y' : MethodName} {bytes' : ByteArray} {mx' : Nat} {rt' : Option FieldType} {rm : Room} {as' : Array Value} {Q : Option Value → Heap → Prop} {W : Nat} {rest : List Value}
theorem callS (argsL : List Value) (r : Rch l Z n0 R y bytes mx rt D h k n pc Ls st) (hd : decode bytes pc = .ok (.invokestatic index, 3)) (K : Con l Z n0 y' bytes' mx' rt' rm as' h Q) (w1 : (Jvm.Cond.methodLink y.cls index y').before a0 Z = true) (w2 : (Jvm.Cond.static y').before a0 Z = true) (w3 : (Jvm.Cond.initialized y'.cls).before a0 Z = true) (w4 : (Jvm.Cond.code y' bytes' mx' rt').before a0 Z = true)
    (hlen : ∀ sig, parseMethodDescriptor y'.desc = some sig → argsL.length = sig.parameters.length) (has : argsL.toArray = as') (hst : st = argsL.reverse ++ rest) (hW : (rest.map fun v => v.category).sum ≤ W) (hsz : Ls.size = mx) (hy : y'.cls ≠ "java/lang/invoke/MethodHandle" ∧ y'.cls ≠ "java/lang/invoke/VarHandle") (hf : rm.frames + 1 ≤ R.frames) (hlo : W + (mx' + 11) + rm.locals ≤ R.locals) (hc : k + rm.cells ≤ R.cells) (hs : n + rm.slots ≤ R.slots) :
    ∃ v h', Q v h' ∧ Rch l Z n0 R y bytes mx rt D h' (k + rm.cells) (n + rm.slots) (pc + 3) Ls (v.toList ++ rest) := by
  obtain ⟨p, e, s, m, args, below, meth, c, s₁, g0⟩ := D
  obtain ⟨hB, T, locs, X, eT, N, hs0⟩ := r
  obtain ⟨hx, hbb, hml, ho, hZ, hr, hlk, hnm⟩ := id hB
  subst hst
  obtain ⟨v, vm₁, ⟨T', L', k', n'⟩, -, X', ⟨Lc, ⟨N', hQ⟩, l1, y1, z1⟩, s'⟩ := Jvm.LawKit.callS X hx (y := y') ho (mvT hZ w1) (mvT hZ w2) (mvT hZ w3) (mvT hZ w4) hy (backOf (W := W) (Q := fun v h L => Fr n0 L ∧ Q v h) (K []) hZ w4 w3 hf hlo) (g := mkF m pc Ls (argsL.reverse ++ rest)) rfl (hsz.trans hml.symm) (argsL := argsL) (rest := rest) hlen rfl (by show 2 * 0 + _ ≤ _; omega) (hb hbb hd) (fun _ _ => ⟨has, eT, hc, hs⟩)
  dsimp only [Pt.U, Pt.locs, Pt.cells, Pt.slots] at X' l1 y1 z1 s' hQ
  subst l1 y1 z1
  exact ⟨v, T'.heap, hQ, hB, T', _, X', rfl, Fr.app N N', hs0.trans (s' _ (Steps.refl _))⟩
theorem callI {a : Addr} (argsL : List Value) (r : Rch l Z n0 R y bytes mx rt D h k n pc Ls st) (hd : decode bytes pc = .ok (.invokespecial index, 3)) (K : Con l Z n0 y' bytes' mx' none rm as' h Q) (w1 : (Jvm.Cond.methodLink y.cls index y').before a0 Z = true) (w2 : (Jvm.Cond.instanceMethod y').before a0 Z = true) (w3 : (Jvm.Cond.initialized y'.cls).before a0 Z = true) (w4 : (Jvm.Cond.code y' bytes' mx' none).before a0 Z = true) (hin : y'.name = "<init>")
    (hlen : ∀ sig, parseMethodDescriptor y'.desc = some sig → argsL.length = sig.parameters.length) (has : (.ref a :: argsL).toArray = as') (hst : st = argsL.reverse ++ .ref a :: rest) (hW : (rest.map fun v => v.category).sum ≤ W) (hsz : Ls.size = mx) (hy : y'.cls ≠ "java/lang/invoke/MethodHandle" ∧ y'.cls ≠ "java/lang/invoke/VarHandle") (hf : rm.frames + 1 ≤ R.frames) (hlo : W + (mx' + 11) + rm.locals ≤ R.locals) (hc : k + rm.cells ≤ R.cells) (hs : n + rm.slots ≤ R.slots) :
    ∃ v h', Q v h' ∧ Rch l Z n0 R y bytes mx rt D h' (k + rm.cells) (n + rm.slots) (pc + 3) Ls (v.toList ++ rest) := by
  obtain ⟨p, e, s, m, args, below, meth, c, s₁, g0⟩ := D
  obtain ⟨hB, T, locs, X, eT, N, hs0⟩ := r
  obtain ⟨hx, hbb, hml, ho, hZ, hr, hlk, hnm⟩ := id hB
  subst hst
  obtain ⟨v, vm₁, ⟨T', L', k', n'⟩, -, X', ⟨Lc, ⟨N', hQ⟩, l1, y1, z1⟩, s'⟩ := X.specialBack hx (y := y') hin ho (mvT hZ w1) (mvT hZ w2) (mvT hZ w4) hy (backOf (W := W) (Q := fun v h L => Fr n0 L ∧ Q v h) (K []) hZ w4 w3 hf hlo) (g := mkF m pc Ls (argsL.reverse ++ .ref a :: rest)) rfl (hsz.trans hml.symm) (Steps.refl _) (a := a) (argsL := argsL) (rest := rest) hlen rfl (by show 2 * 0 + _ ≤ _; omega) (hb hbb hd) (fun _ _ => ⟨has, eT, hc, hs⟩)
  dsimp only [Pt.U, Pt.locs, Pt.cells, Pt.slots] at X' l1 y1 z1 s' hQ
  subst l1 y1 z1
  exact ⟨v, T'.heap, hQ, hB, T', _, X', rfl, Fr.app N N', hs0.trans s'⟩
theorem callV {a : Addr} {yr : MethodName} {C : String} (argsL : List Value) (r : Rch l Z n0 R y bytes mx rt D h k n pc Ls st) (hd : decode bytes pc = .ok (.invokevirtual index, 3)) (K : Con l Z n0 y' bytes' mx' rt' rm as' h Q) (E : Exa Z h a C) (w1 : (Jvm.Cond.methodLink y.cls index yr).before a0 Z = true) (w2 : (Jvm.Cond.declares yr).before a0 Z = true) (nf : ∀ s : State, Z.Warmed39 s.vm → NotFace s yr) (w5 : (Jvm.Cond.selects C yr y').before a0 Z = true) (w6 : (Jvm.Cond.instanceMethod y').before a0 Z = true) (w3 : (Jvm.Cond.initialized y'.cls).before a0 Z = true) (w4 : (Jvm.Cond.code y' bytes' mx' rt').before a0 Z = true)
    (hlen : ∀ sig, parseMethodDescriptor yr.desc = some sig → argsL.length = sig.parameters.length) (has : (.ref a :: argsL).toArray = as') (hst : st = argsL.reverse ++ .ref a :: rest) (hW : (rest.map fun v => v.category).sum ≤ W) (hsz : Ls.size = mx) (hy : yr.cls ≠ "java/lang/invoke/MethodHandle" ∧ yr.cls ≠ "java/lang/invoke/VarHandle") (hf : rm.frames + 1 ≤ R.frames) (hlo : W + (mx' + 11) + rm.locals ≤ R.locals) (hc : k + rm.cells ≤ R.cells) (hs : n + rm.slots ≤ R.slots) :
    ∃ v h', Q v h' ∧ Rch l Z n0 R y bytes mx rt D h' (k + rm.cells) (n + rm.slots) (pc + 3) Ls (v.toList ++ rest) := by
  obtain ⟨p, e, s, m, args, below, meth, c, s₁, g0⟩ := D
  obtain ⟨hB, T, locs, X, eT, N, hs0⟩ := r
  obtain ⟨hx, hbb, hml, ho, hZ, hr, hlk, hnm⟩ := id hB
  subst hst
  obtain ⟨cq, kq, qa, qb, qc⟩ := isOf hZ eT E
  obtain ⟨v, vm₁, ⟨T', L', k', n'⟩, -, X', ⟨Lc, ⟨N', hQ⟩, l1, y1, z1⟩, s'⟩ := X.virtualBack hx (y := yr) (z := y') ho (mvT hZ w1) (mvT hZ w2) (nf s hZ) (mvT hZ w5) (mvT hZ w6) hy (backOf (W := W) (Q := fun v h L => Fr n0 L ∧ Q v h) (K []) hZ w4 w3 hf hlo) qa qc (g := mkF m pc Ls (argsL.reverse ++ .ref a :: rest)) rfl (hsz.trans hml.symm) (Steps.refl _) (argsL := argsL) (rest := rest) hlen rfl (by show 2 * 0 + _ ≤ _; omega) (hb hbb hd) (fun _ _ => ⟨has, eT, hc, hs⟩)
  dsimp only [Pt.U, Pt.locs, Pt.cells, Pt.slots] at X' l1 y1 z1 s' hQ
  subst l1 y1 z1
  exact ⟨v, T'.heap, hQ, hB, T', _, X', rfl, Fr.app N N', hs0.trans s'⟩
theorem nfS {yr : MethodName} {C : String} (w : (Jvm.Cond.selects C yr yr).before a0 Z = true) : ∀ s : State, Z.Warmed39 s.vm → NotFace s yr := fun s hZ => notFace_of_selects (args := #[]) (mvT hZ w)
theorem callP {a : Addr} {C : String} (argsL : List Value) (r : Rch l Z n0 R y bytes mx rt D h k n pc Ls st) (hd : decode bytes pc = .ok (.invokevirtual index, 3)) (K : Con l Z n0 y' bytes' mx' rt' rm as' h Q) (E : Exa Z h a C) (w1 : (Jvm.Cond.methodLink y.cls index y').before a0 Z = true) (w6 : (Jvm.Cond.instanceMethod y').before a0 Z = true) {kk : Nat} (wi : (Jvm.Cond.instantiable y'.cls kk).before a0 Z = true) (w7 : (Jvm.Cond.privateMethod y').before a0 Z = true) (w3 : (Jvm.Cond.initialized y'.cls).before a0 Z = true) (w4 : (Jvm.Cond.code y' bytes' mx' rt').before a0 Z = true)
    (hlen : ∀ sig, parseMethodDescriptor y'.desc = some sig → argsL.length = sig.parameters.length) (has : (.ref a :: argsL).toArray = as') (hst : st = argsL.reverse ++ .ref a :: rest) (hW : (rest.map fun v => v.category).sum ≤ W) (hsz : Ls.size = mx) (hy : y'.cls ≠ "java/lang/invoke/MethodHandle" ∧ y'.cls ≠ "java/lang/invoke/VarHandle") (hf : rm.frames + 1 ≤ R.frames) (hlo : W + (mx' + 11) + rm.locals ≤ R.locals) (hc : k + rm.cells ≤ R.cells) (hs : n + rm.slots ≤ R.slots) :
    ∃ v h', Q v h' ∧ Rch l Z n0 R y bytes mx rt D h' (k + rm.cells) (n + rm.slots) (pc + 3) Ls (v.toList ++ rest) := by
  obtain ⟨p, e, s, m, args, below, meth, c, s₁, g0⟩ := D
  obtain ⟨hB, T, locs, X, eT, N, hs0⟩ := r
  obtain ⟨hx, hbb, hml, ho, hZ, hr, hlk, hnm⟩ := id hB
  subst hst
  obtain ⟨cq, q1, q2⟩ := E.cell
  have hpv : s.PrivateAt y' := Cond.privateMethod_at (mvP hZ w7 (args := #[]))
  obtain ⟨ci, ki, i1, i2, -, i4, -, -⟩ := Cond.instantiable_spec (mvT (args := args) hZ wi)
  have hni : ki.isInterface = false := by
    cases q : ki.isInterface with
    | false => rfl
    | true => rw [q] at i4; simp at i4
  have hsel := selects_self_of_private (args := args) i1 i2 hni hpv (mvT hZ w6) hy
  obtain ⟨v, vm₁, ⟨T', L', k', n'⟩, -, X', ⟨Lc, ⟨N', hQ⟩, l1, y1, z1⟩, s'⟩ := X.privateBack hx (y := y') ho (mvT hZ w1) (mvT hZ w6) hsel hpv (mvT hZ w4) hy (backOf (W := W) (Q := fun v h L => Fr n0 L ∧ Q v h) (K []) hZ w4 w3 hf hlo) (g := mkF m pc Ls (argsL.reverse ++ .ref a :: rest)) rfl (hsz.trans hml.symm) (Steps.refl _) (a := a) (by rw [eT]; exact q1) q2 (argsL := argsL) (rest := rest) hlen rfl (by show 2 * 0 + _ ≤ _; omega) (hb hbb hd) (fun _ _ => ⟨has, eT, hc, hs⟩)
  dsimp only [Pt.U, Pt.locs, Pt.cells, Pt.slots] at X' l1 y1 z1 s' hQ
  subst l1 y1 z1
  exact ⟨v, T'.heap, hQ, hB, T', _, X', rfl, Fr.app N N', hs0.trans s'⟩
end Calls
/-! a walk that resolves a String constant: the start's tables are re-based -/
def Reb (D0 D : Dyn) (h : Heap) : Prop := match D0 with
  | (p, e, s, m, args, below, meth, c, s₁, g0) => ∃ (vm' : Vm) (n : Nat), s.Since vm' n ∧ n ≤ h.size ∧ D = (p, e, s.setVm vm', m, args, below, meth, c, s₁, g0)
theorem Reb.refl (D : Dyn) (h : Heap) : Reb D D h := by
  obtain ⟨p, e, s, m, args, below, meth, c, s₁, g0⟩ := D
  exact ⟨s.vm, h.size, (State.WarmedH.refl s).since _, Nat.le_refl _, rfl⟩
theorem Reb.grow {D0 D : Dyn} (B : Reb D0 D h) (q : h.size ≤ h'.size) : Reb D0 D h' := by
  obtain ⟨p, e, s, m, args, below, meth, c, s₁, g0⟩ := D0
  obtain ⟨vm', n, h1, h2, h3⟩ := B
  exact ⟨vm', n, h1, Nat.le_trans h2 q, h3⟩
theorem ldcStr {D0 : Dyn} {text : String} {index nn : Nat} (r : Rch l Z n0 R y bytes mx rt D h k n pc Ls st) (B : Reb D0 D h) (hd : decode bytes pc = .ok (.ldc index, 2)) (w : (Jvm.Cond.stringLink y.cls index text).before a0 Z = true) (wS : ∀ a ∈ Bundle.stringAtoms, a.before a0 Z = true) (hn : 4 * text.toList.length ≤ nn) (hbig : nn ≤ 536870912) (hc : k + 2 ≤ R.cells) (hl : n + (nn + 4) ≤ R.slots) :
    ∃ (D' : Dyn) (h' : Heap) (a : Addr), Reb D0 D' h' ∧ Ext h h' ∧ Rch l Z n0 R y bytes mx rt D' h' (k + 2) (n + (nn + 4)) (pc + 2) Ls (.ref a :: st) := by
  obtain ⟨p, e, s, m, args, below, meth, c, s₁, g0⟩ := D0
  obtain ⟨vm0, n1, hS, hk, rfl⟩ := B
  obtain ⟨hB, T, locs, X, eT, N, hs0⟩ := r
  obtain ⟨hx, hbb, hml, ho, hZ, hr, hlk, hnm⟩ := hB
  obtain ⟨a, T', h', k1, X', e', E, hS', hk', hZ', ho', st'⟩ := ldcS X hx hZ ho w wS eT hS hk (g := mkF m pc Ls st) rfl (hb hbb hd) hn hbig hc hl
  exact ⟨(p, e, s.setVm T'.vm, m, args, below, meth, c, s₁, g0), h', a, ⟨T'.vm, k1, hS', hk', rfl⟩, E, ⟨hx, hbb, hml, ho', hZ', hr, hlk, hnm⟩, T', locs, X', e', N, hs0.trans (st' _ (Steps.refl _))⟩
def ConW (l : Launch) (Z : State) (n0 : Nat) (y : MethodName) (bytes : ByteArray) (mx : Nat) (rt : Option FieldType) (rm : Room) (as' : Array Value) (h : Heap) (Q : Option Value → Heap → Prop) : Prop :=
  ∀ ws : List Jvm.Cond, MetFree l y (head1 (Jvm.Cond.code y bytes mx rt :: ws) rm) (fun a U => a = as' ∧ Z.Warmed39 U.vm ∧ U.heap = h) (fun _ _ _ _ _ => True) (fun _ U o U' => ∃ v L, o = .returned v ∧ (Fr n0 L ∧ Q v U'.heap) ∧ U.Warmed39 U'.vm ∧ U.Booked U'.vm U'.heap.size ∧ U.sameButNew ({ U' with vm := U.vm } : State) L rm.cells rm.slots)
theorem ConW.enter {rm : Room} {as' : Array Value} {Q : Option Value → Heap → Prop} (hp : plainFor y = true) (ef : ∀ m, entryFrame m as' mx = mkF m 0 Ls [])
    (f : ∀ D : Dyn, Rch l Z n0 rm y bytes mx rt D h 0 0 0 Ls [] → ∃ D' v h', Reb D D' h' ∧ Don l Z n0 rm D' h' rm.cells rm.slots v ∧ Q v h') : ConW l Z n0 y bytes mx rt rm as' h Q := by
  intro ws
  refine MetFree.of_bodySF hp hisR ?_
  intro p e s m args below meth c s₁ Bd hml0 hP hK
  obtain ⟨rfl, hZ, hh⟩ := hP
  have X0 : Stand p l e rm s m args below meth c s₁ [] 0 0 := Stand.of_body Bd
  have e0 : s₁.heap = h := by rw [← hh, Bd.state]; rfl
  obtain ⟨D', v, h', ⟨vm', n1, hS, hk, rfl⟩, hD, hQ⟩ := f (p, e, s, m, args, below, meth, c, s₁, mkF m 0 Ls []) ⟨⟨Bd.exec, Bd.bytes, hml0, findClass_of_methodNamed Bd.named, hZ, Bd.returns, Bd.notSynchronized, (name_of_methodNamed Bd.named Bd.method).1⟩, s₁, [], X0, e0, Fr.nil n0, Steps.refl _⟩
  obtain ⟨T, locs, fs, X, eT, N, hs, hh', hrun, hend, hW, hsame⟩ := hD
  obtain ⟨w1, w2, w3⟩ := hS.ended hW (by rw [hh']; exact hk) hsame
  exact ⟨_, _, castTop (ef m) hs, hrun, hend, v, locs, rfl, ⟨N, hh'.symm ▸ hQ⟩, w1, w2, w3⟩
end Kit
end Jvm.Own

namespace Jvm.Pilot.@@N@@
open Jvm Jvm.ClassFile Sem Op Lib Jvm.Free Jvm.Stand Jvm.LawKit Jvm.RoadKit Bundle Jvm.Pilot.@@N@@.Jvm.D


theorem own_strs {Z : State} {a0 : Array Value} (hw : ∀ d ∈ tables_1, d.before a0 Z = true) : ∀ a ∈ Bundle.stringAtoms, a.before a0 Z = true := by
  intro a ha
  simp only [Bundle.stringAtoms, List.mem_cons, List.not_mem_nil, or_false] at ha
  rcases ha with rfl | rfl | rfl | rfl | rfl | rfl | rfl
  · exact hw _ (List.mem_of_getElem? (i := 10) rfl)
  · exact hw _ (List.mem_of_getElem? (i := 11) rfl)
  · exact hw _ (List.mem_of_getElem? (i := 12) rfl)
  · exact hw _ (List.mem_of_getElem? (i := 13) rfl)
  · exact hw _ (List.mem_of_getElem? (i := 14) rfl)
  · exact hw _ (List.mem_of_getElem? (i := 15) rfl)
  · exact hw _ (List.mem_of_getElem? (i := 16) rfl)

theorem d2_0 : decode prog_38_method_2_code 0 = .ok (.aload_n 0, 1) := by decide +kernel
theorem d2_1 : decode prog_38_method_2_code 1 = .ok (.invokespecial 7, 3) := by decide +kernel
theorem d2_4 : decode prog_38_method_2_code 4 = .ok (.aload_n 0, 1) := by decide +kernel
theorem d2_5 : decode prog_38_method_2_code 5 = .ok (.iconst 0, 1) := by decide +kernel
theorem d2_6 : decode prog_38_method_2_code 6 = .ok (.anewarray 12, 3) := by decide +kernel
theorem d2_9 : decode prog_38_method_2_code 9 = .ok (.putfield 14, 3) := by decide +kernel
theorem d2_12 : decode prog_38_method_2_code 12 = .ok (.aload_n 0, 1) := by decide +kernel
theorem d2_13 : decode prog_38_method_2_code 13 = .ok (.iconst 0, 1) := by decide +kernel
theorem d2_14 : decode prog_38_method_2_code 14 = .ok (.newarray .int, 2) := by decide +kernel
theorem d2_16 : decode prog_38_method_2_code 16 = .ok (.putfield 18, 3) := by decide +kernel
theorem d2_19 : decode prog_38_method_2_code 19 = .ok (.aload_n 0, 1) := by decide +kernel
theorem d2_20 : decode prog_38_method_2_code 20 = .ok (.aload_n 1, 1) := by decide +kernel
theorem d2_21 : decode prog_38_method_2_code 21 = .ok (.putfield 22, 3) := by decide +kernel
theorem d2_24 : decode prog_38_method_2_code 24 = .ok (.aload_n 0, 1) := by decide +kernel
theorem d2_25 : decode prog_38_method_2_code 25 = .ok (.iload_n 2, 1) := by decide +kernel
theorem d2_26 : decode prog_38_method_2_code 26 = .ok (.putfield 26, 3) := by decide +kernel
theorem d2_29 : decode prog_38_method_2_code 29 = .ok (.aload_n 0, 1) := by decide +kernel
theorem d2_30 : decode prog_38_method_2_code 30 = .ok (.iconst 1, 1) := by decide +kernel
theorem d2_31 : decode prog_38_method_2_code 31 = .ok (.iload_n 2, 1) := by decide +kernel
theorem d2_32 : decode prog_38_method_2_code 32 = .ok (.ishl, 1) := by decide +kernel
theorem d2_33 : decode prog_38_method_2_code 33 = .ok (.putfield 30, 3) := by decide +kernel
theorem d2_36 : decode prog_38_method_2_code 36 = .ok (.return_, 1) := by decide +kernel
theorem pn_2 : plainFor (⟨"com/example/debit/debit/metering/MappedBlocks", "<init>", "(Ljava/lang/String;I)V"⟩ : MethodName) = true := plainFor_of_name (by first | (simp [plainName, overriddenIn, x]; done) | decide +kernel)
theorem ef_2 (a0_ : Addr) (a1_ : Addr) (p2 : Int32) (m : MethodId) : entryFrame m #[(.ref a0_), (.ref a1_), (.int p2)] 3 = mkF m 0 #[.val (.ref a0_), .val (.ref a1_), .val (.int p2)] [] := by first | (simp [entryFrame, mkF, argsToLocals, Value.category, maxLocals]; done) | rfl
abbrev R2 : Room := ({ frames := 1, cells := 2, slots := 0, locals := 12 } : Room)
abbrev A2 (l : Launch) (Z : State) (n0 : Nat) (D : Own.Dyn) := Own.Rch l Z n0 R2 (⟨"com/example/debit/debit/metering/MappedBlocks", "<init>", "(Ljava/lang/String;I)V"⟩ : MethodName) prog_38_method_2_code 3 none D
set_option maxRecDepth 65536 in
set_option maxHeartbeats 40000000 in
theorem c2 (l : Launch) (Z : State) (a0 : Array Value) (hw : ∀ d ∈ tables_1, d.before a0 Z = true) (n0 : Nat) (h : Heap) (Zs : n0 ≤ h.size) (a0_ : Addr) (a1_ : Addr) (p2 : Int32) (u_segments : Value) (u_free : Value) (u_held : Value) (u_segmentShift : Value) (u_segmentUnits : Value) (F_segments_a0_ : Fld Z h a0_ "com/example/debit/debit/metering/MappedBlocks" "segments" "[Ljava/nio/ByteBuffer;" u_segments) (F_free_a0_ : Fld Z h a0_ "com/example/debit/debit/metering/MappedBlocks" "free" "[I" u_free) (F_held_a0_ : Fld Z h a0_ "com/example/debit/debit/metering/MappedBlocks" "held" "Ljava/lang/String;" u_held) (F_segmentShift_a0_ : Fld Z h a0_ "com/example/debit/debit/metering/MappedBlocks" "segmentShift" "I" u_segmentShift) (F_segmentUnits_a0_ : Fld Z h a0_ "com/example/debit/debit/metering/MappedBlocks" "segmentUnits" "I" u_segmentUnits) (X_a0_ : Exa Z h a0_ "com/example/debit/debit/metering/MappedBlocks") (ge_a0_ : n0 ≤ a0_) :
    Own.Con l Z n0 (⟨"com/example/debit/debit/metering/MappedBlocks", "<init>", "(Ljava/lang/String;I)V"⟩ : MethodName) prog_38_method_2_code 3 none R2 #[(.ref a0_), (.ref a1_), (.int p2)] h (fun v h' => v = none ∧ Keep h h' [a0_] ∧ Exa Z h' a0_ "com/example/debit/debit/metering/MappedBlocks" ∧ ∃ f11 : Int32, f11 = (Own.ishlW (1 : Int32) p2)) := by
  refine Own.Con.enter pn_2 (ef_2 a0_ a1_ p2) fun D r => ?_
  have K : Keep h h [a0_] := Keep.refl _ _
  replace r : A2 l Z n0 D h 0 0 1 #[.val (.ref a0_), .val (.ref a1_), .val (.int p2)] [(.ref a0_)] := Own.aloadN r d2_0 rfl rfl
  replace r : A2 l Z n0 D h 0 0 4 #[.val (.ref a0_), .val (.ref a1_), .val (.int p2)] [] := Own.initObj r d2_1 (hw _ (List.mem_of_getElem? (i := 23) rfl)) (hw _ (List.mem_of_getElem? (i := 24) rfl)) (hw _ (List.mem_of_getElem? (i := 25) rfl)) rfl (by decide) (W := 0) (Nat.le_of_eq rfl) (by decide)
  replace r : A2 l Z n0 D h 0 0 5 #[.val (.ref a0_), .val (.ref a1_), .val (.int p2)] [(.ref a0_)] := Own.aloadN r d2_4 rfl rfl
  replace r : A2 l Z n0 D h 0 0 6 #[.val (.ref a0_), .val (.ref a1_), .val (.int p2)] [(.int (0 : Int32)), (.ref a0_)] := Own.iconst r d2_5 rfl
  obtain ⟨h1, ⟨E1, V_b1⟩, r⟩ := Own.newRef r d2_6 (hw _ (List.mem_of_getElem? (i := 26) rfl)) (hw _ (List.mem_of_getElem? (i := 27) rfl)) (by decide) (cap := 0) (by decide) (by decide) (by decide) (by decide)
  obtain ⟨b1, g1⟩ : ∃ z, z = h.size := ⟨_, rfl⟩
  rw [← g1] at V_b1 r
  have ge_b1 : n0 ≤ b1 := Nat.le_trans Zs (Nat.le_of_eq g1.symm)
  have sz_b1 : h.size ≤ b1 := Nat.le_trans K.1 (Nat.le_of_eq g1.symm)
  have ne_a0__b1 : a0_ ≠ b1 := Own.ne_lt F_segments_a0_.lt g1
  replace F_segments_a0_ := F_segments_a0_.ext E1
  replace F_free_a0_ := F_free_a0_.ext E1
  replace F_held_a0_ := F_held_a0_.ext E1
  replace F_segmentShift_a0_ := F_segmentShift_a0_.ext E1
  replace F_segmentUnits_a0_ := F_segmentUnits_a0_.ext E1
  replace X_a0_ := X_a0_.ext E1
  replace Zs := Nat.le_trans Zs E1.1
  replace K := K.ext E1
  replace r : A2 l Z n0 D h1 1 0 9 #[.val (.ref a0_), .val (.ref a1_), .val (.int p2)] [(.ref b1), (.ref a0_)] := r
  obtain ⟨h3, W2, r⟩ := Own.putfield r d2_9 (host := "") (Or.inl (hw _ (List.mem_of_getElem? (i := 28) rfl))) Via.refl F_segments_a0_ X_a0_ (Or.inl (hw _ (List.mem_of_getElem? (i := 29) rfl))) (hw _ (List.mem_of_getElem? (i := 7) rfl)) (ty := (.array (.object "java/nio/ByteBuffer"))) (by decide) rfl rfl ge_a0_
  replace r : A2 l Z n0 D h3 1 0 12 #[.val (.ref a0_), .val (.ref a1_), .val (.int p2)] [] := r
  replace F_segments_a0_ := F_segments_a0_.same W2
  replace F_free_a0_ := F_free_a0_.other W2 (Or.inr (slot_ne (Or.inl (hw _ (List.mem_of_getElem? (i := 32) rfl))) (Or.inl (hw _ (List.mem_of_getElem? (i := 29) rfl))) (by decide) (t := (.array .int)) (t' := (.array (.object "java/nio/ByteBuffer"))) (by decide) (by decide)))
  replace F_held_a0_ := F_held_a0_.other W2 (Or.inr (slot_ne (Or.inr (hw _ (List.mem_of_getElem? (i := 34) rfl))) (Or.inl (hw _ (List.mem_of_getElem? (i := 29) rfl))) (by decide) (t := (.object "java/lang/String")) (t' := (.array (.object "java/nio/ByteBuffer"))) (by decide) (by decide)))
  replace F_segmentShift_a0_ := F_segmentShift_a0_.other W2 (Or.inr (slot_ne (Or.inr (hw _ (List.mem_of_getElem? (i := 36) rfl))) (Or.inl (hw _ (List.mem_of_getElem? (i := 29) rfl))) (by decide) (t := .int) (t' := (.array (.object "java/nio/ByteBuffer"))) (by decide) (by decide)))
  replace F_segmentUnits_a0_ := F_segmentUnits_a0_.other W2 (Or.inr (slot_ne (Or.inr (hw _ (List.mem_of_getElem? (i := 38) rfl))) (Or.inl (hw _ (List.mem_of_getElem? (i := 29) rfl))) (by decide) (t := .int) (t' := (.array (.object "java/nio/ByteBuffer"))) (by decide) (by decide)))
  replace X_a0_ := X_a0_.wr W2
  replace V_b1 := V_b1.other W2 (Ne.symm ne_a0__b1)
  replace Zs := Nat.le_trans Zs (Nat.le_of_eq W2.size.symm)
  replace K := K.wr W2 (Or.inl (by simp))
  replace r : A2 l Z n0 D h3 1 0 13 #[.val (.ref a0_), .val (.ref a1_), .val (.int p2)] [(.ref a0_)] := Own.aloadN r d2_12 rfl rfl
  replace r : A2 l Z n0 D h3 1 0 14 #[.val (.ref a0_), .val (.ref a1_), .val (.int p2)] [(.int (0 : Int32)), (.ref a0_)] := Own.iconst r d2_13 rfl
  obtain ⟨h4, ⟨E4, V_b4⟩, r⟩ := Own.newArr r d2_14 (hw _ (List.mem_of_getElem? (i := 30) rfl)) (by decide) (cap := 0) (by decide) (by decide) (by decide) (by decide)
  obtain ⟨b4, g4⟩ : ∃ z, z = h3.size := ⟨_, rfl⟩
  rw [← g4] at V_b4 r
  have ge_b4 : n0 ≤ b4 := Nat.le_trans Zs (Nat.le_of_eq g4.symm)
  have sz_b4 : h.size ≤ b4 := Nat.le_trans K.1 (Nat.le_of_eq g4.symm)
  have ne_a0__b4 : a0_ ≠ b4 := Own.ne_lt F_segments_a0_.lt g4
  have ne_b1_b4 : b1 ≠ b4 := Own.ne_lt V_b1.lt g4
  replace F_segments_a0_ := F_segments_a0_.ext E4
  replace F_free_a0_ := F_free_a0_.ext E4
  replace F_held_a0_ := F_held_a0_.ext E4
  replace F_segmentShift_a0_ := F_segmentShift_a0_.ext E4
  replace F_segmentUnits_a0_ := F_segmentUnits_a0_.ext E4
  replace X_a0_ := X_a0_.ext E4
  replace V_b1 := V_b1.ext E4
  replace Zs := Nat.le_trans Zs E4.1
  replace K := K.ext E4
  replace r : A2 l Z n0 D h4 2 0 16 #[.val (.ref a0_), .val (.ref a1_), .val (.int p2)] [(.ref b4), (.ref a0_)] := r
  replace V_b4 : Own.VA Z h4 b4 .int [] := V_b4
  obtain ⟨h6, W5, r⟩ := Own.putfield r d2_16 (host := "") (Or.inl (hw _ (List.mem_of_getElem? (i := 31) rfl))) Via.refl F_free_a0_ X_a0_ (Or.inl (hw _ (List.mem_of_getElem? (i := 32) rfl))) (hw _ (List.mem_of_getElem? (i := 7) rfl)) (ty := (.array .int)) (by decide) rfl rfl ge_a0_
  replace r : A2 l Z n0 D h6 2 0 19 #[.val (.ref a0_), .val (.ref a1_), .val (.int p2)] [] := r
  replace F_segments_a0_ := F_segments_a0_.other W5 (Or.inr (slot_ne (Or.inl (hw _ (List.mem_of_getElem? (i := 29) rfl))) (Or.inl (hw _ (List.mem_of_getElem? (i := 32) rfl))) (by decide) (t := (.array (.object "java/nio/ByteBuffer"))) (t' := (.array .int)) (by decide) (by decide)))
  replace F_free_a0_ := F_free_a0_.same W5
  replace F_held_a0_ := F_held_a0_.other W5 (Or.inr (slot_ne (Or.inr (hw _ (List.mem_of_getElem? (i := 34) rfl))) (Or.inl (hw _ (List.mem_of_getElem? (i := 32) rfl))) (by decide) (t := (.object "java/lang/String")) (t' := (.array .int)) (by decide) (by decide)))
  replace F_segmentShift_a0_ := F_segmentShift_a0_.other W5 (Or.inr (slot_ne (Or.inr (hw _ (List.mem_of_getElem? (i := 36) rfl))) (Or.inl (hw _ (List.mem_of_getElem? (i := 32) rfl))) (by decide) (t := .int) (t' := (.array .int)) (by decide) (by decide)))
  replace F_segmentUnits_a0_ := F_segmentUnits_a0_.other W5 (Or.inr (slot_ne (Or.inr (hw _ (List.mem_of_getElem? (i := 38) rfl))) (Or.inl (hw _ (List.mem_of_getElem? (i := 32) rfl))) (by decide) (t := .int) (t' := (.array .int)) (by decide) (by decide)))
  replace X_a0_ := X_a0_.wr W5
  replace V_b1 := V_b1.other W5 (Ne.symm ne_a0__b1)
  replace V_b4 := V_b4.other W5 (Ne.symm ne_a0__b4)
  replace Zs := Nat.le_trans Zs (Nat.le_of_eq W5.size.symm)
  replace K := K.wr W5 (Or.inl (by simp))
  replace r : A2 l Z n0 D h6 2 0 20 #[.val (.ref a0_), .val (.ref a1_), .val (.int p2)] [(.ref a0_)] := Own.aloadN r d2_19 rfl rfl
  replace r : A2 l Z n0 D h6 2 0 21 #[.val (.ref a0_), .val (.ref a1_), .val (.int p2)] [(.ref a1_), (.ref a0_)] := Own.aloadN r d2_20 rfl rfl
  obtain ⟨h8, W7, r⟩ := Own.putfield r d2_21 (host := "") (Or.inl (hw _ (List.mem_of_getElem? (i := 33) rfl))) Via.refl F_held_a0_ X_a0_ (Or.inr ⟨(hw _ (List.mem_of_getElem? (i := 34) rfl)), rfl, rfl⟩) (hw _ (List.mem_of_getElem? (i := 7) rfl)) (ty := (.object "java/lang/String")) (by decide) rfl rfl ge_a0_
  replace r : A2 l Z n0 D h8 2 0 24 #[.val (.ref a0_), .val (.ref a1_), .val (.int p2)] [] := r
  replace F_segments_a0_ := F_segments_a0_.other W7 (Or.inr (slot_ne (Or.inl (hw _ (List.mem_of_getElem? (i := 29) rfl))) (Or.inr (hw _ (List.mem_of_getElem? (i := 34) rfl))) (by decide) (t := (.array (.object "java/nio/ByteBuffer"))) (t' := (.object "java/lang/String")) (by decide) (by decide)))
  replace F_free_a0_ := F_free_a0_.other W7 (Or.inr (slot_ne (Or.inl (hw _ (List.mem_of_getElem? (i := 32) rfl))) (Or.inr (hw _ (List.mem_of_getElem? (i := 34) rfl))) (by decide) (t := (.array .int)) (t' := (.object "java/lang/String")) (by decide) (by decide)))
  replace F_held_a0_ := F_held_a0_.same W7
  replace F_segmentShift_a0_ := F_segmentShift_a0_.other W7 (Or.inr (slot_ne (Or.inr (hw _ (List.mem_of_getElem? (i := 36) rfl))) (Or.inr (hw _ (List.mem_of_getElem? (i := 34) rfl))) (by decide) (t := .int) (t' := (.object "java/lang/String")) (by decide) (by decide)))
  replace F_segmentUnits_a0_ := F_segmentUnits_a0_.other W7 (Or.inr (slot_ne (Or.inr (hw _ (List.mem_of_getElem? (i := 38) rfl))) (Or.inr (hw _ (List.mem_of_getElem? (i := 34) rfl))) (by decide) (t := .int) (t' := (.object "java/lang/String")) (by decide) (by decide)))
  replace X_a0_ := X_a0_.wr W7
  replace V_b1 := V_b1.other W7 (Ne.symm ne_a0__b1)
  replace V_b4 := V_b4.other W7 (Ne.symm ne_a0__b4)
  replace Zs := Nat.le_trans Zs (Nat.le_of_eq W7.size.symm)
  replace K := K.wr W7 (Or.inl (by simp))
  replace r : A2 l Z n0 D h8 2 0 25 #[.val (.ref a0_), .val (.ref a1_), .val (.int p2)] [(.ref a0_)] := Own.aloadN r d2_24 rfl rfl
  replace r : A2 l Z n0 D h8 2 0 26 #[.val (.ref a0_), .val (.ref a1_), .val (.int p2)] [(.int p2), (.ref a0_)] := Own.iloadN r d2_25 rfl
  obtain ⟨h10, W9, r⟩ := Own.putfield r d2_26 (host := "") (Or.inl (hw _ (List.mem_of_getElem? (i := 35) rfl))) Via.refl F_segmentShift_a0_ X_a0_ (Or.inr ⟨(hw _ (List.mem_of_getElem? (i := 36) rfl)), rfl, rfl⟩) (hw _ (List.mem_of_getElem? (i := 7) rfl)) (ty := .int) (by decide) rfl rfl ge_a0_
  replace r : A2 l Z n0 D h10 2 0 29 #[.val (.ref a0_), .val (.ref a1_), .val (.int p2)] [] := r
  replace F_segments_a0_ := F_segments_a0_.other W9 (Or.inr (slot_ne (Or.inl (hw _ (List.mem_of_getElem? (i := 29) rfl))) (Or.inr (hw _ (List.mem_of_getElem? (i := 36) rfl))) (by decide) (t := (.array (.object "java/nio/ByteBuffer"))) (t' := .int) (by decide) (by decide)))
  replace F_free_a0_ := F_free_a0_.other W9 (Or.inr (slot_ne (Or.inl (hw _ (List.mem_of_getElem? (i := 32) rfl))) (Or.inr (hw _ (List.mem_of_getElem? (i := 36) rfl))) (by decide) (t := (.array .int)) (t' := .int) (by decide) (by decide)))
  replace F_held_a0_ := F_held_a0_.other W9 (Or.inr (slot_ne (Or.inr (hw _ (List.mem_of_getElem? (i := 34) rfl))) (Or.inr (hw _ (List.mem_of_getElem? (i := 36) rfl))) (by decide) (t := (.object "java/lang/String")) (t' := .int) (by decide) (by decide)))
  replace F_segmentShift_a0_ := F_segmentShift_a0_.same W9
  replace F_segmentUnits_a0_ := F_segmentUnits_a0_.other W9 (Or.inr (slot_ne (Or.inr (hw _ (List.mem_of_getElem? (i := 38) rfl))) (Or.inr (hw _ (List.mem_of_getElem? (i := 36) rfl))) (by decide) (t := .int) (t' := .int) (by decide) (by decide)))
  replace X_a0_ := X_a0_.wr W9
  replace V_b1 := V_b1.other W9 (Ne.symm ne_a0__b1)
  replace V_b4 := V_b4.other W9 (Ne.symm ne_a0__b4)
  replace Zs := Nat.le_trans Zs (Nat.le_of_eq W9.size.symm)
  replace K := K.wr W9 (Or.inl (by simp))
  replace r : A2 l Z n0 D h10 2 0 30 #[.val (.ref a0_), .val (.ref a1_), .val (.int p2)] [(.ref a0_)] := Own.aloadN r d2_29 rfl rfl
  replace r : A2 l Z n0 D h10 2 0 31 #[.val (.ref a0_), .val (.ref a1_), .val (.int p2)] [(.int (1 : Int32)), (.ref a0_)] := Own.iconst r d2_30 rfl
  replace r : A2 l Z n0 D h10 2 0 32 #[.val (.ref a0_), .val (.ref a1_), .val (.int p2)] [(.int p2), (.int (1 : Int32)), (.ref a0_)] := Own.iloadN r d2_31 rfl
  replace r : A2 l Z n0 D h10 2 0 33 #[.val (.ref a0_), .val (.ref a1_), .val (.int p2)] [(.int (Own.ishlW (1 : Int32) p2)), (.ref a0_)] := Own.ishl r d2_32
  obtain ⟨f11, e_f11⟩ : ∃ z : Int32, z = (Own.ishlW (1 : Int32) p2) := ⟨_, rfl⟩
  replace r : A2 l Z n0 D h10 2 0 33 #[.val (.ref a0_), .val (.ref a1_), .val (.int p2)] [(.int f11), (.ref a0_)] := by rw [e_f11]; exact r
  obtain ⟨h13, W12, r⟩ := Own.putfield r d2_33 (host := "") (Or.inl (hw _ (List.mem_of_getElem? (i := 37) rfl))) Via.refl F_segmentUnits_a0_ X_a0_ (Or.inr ⟨(hw _ (List.mem_of_getElem? (i := 38) rfl)), rfl, rfl⟩) (hw _ (List.mem_of_getElem? (i := 7) rfl)) (ty := .int) (by decide) rfl rfl ge_a0_
  replace r : A2 l Z n0 D h13 2 0 36 #[.val (.ref a0_), .val (.ref a1_), .val (.int p2)] [] := r
  replace F_segments_a0_ := F_segments_a0_.other W12 (Or.inr (slot_ne (Or.inl (hw _ (List.mem_of_getElem? (i := 29) rfl))) (Or.inr (hw _ (List.mem_of_getElem? (i := 38) rfl))) (by decide) (t := (.array (.object "java/nio/ByteBuffer"))) (t' := .int) (by decide) (by decide)))
  replace F_free_a0_ := F_free_a0_.other W12 (Or.inr (slot_ne (Or.inl (hw _ (List.mem_of_getElem? (i := 32) rfl))) (Or.inr (hw _ (List.mem_of_getElem? (i := 38) rfl))) (by decide) (t := (.array .int)) (t' := .int) (by decide) (by decide)))
  replace F_held_a0_ := F_held_a0_.other W12 (Or.inr (slot_ne (Or.inr (hw _ (List.mem_of_getElem? (i := 34) rfl))) (Or.inr (hw _ (List.mem_of_getElem? (i := 38) rfl))) (by decide) (t := (.object "java/lang/String")) (t' := .int) (by decide) (by decide)))
  replace F_segmentShift_a0_ := F_segmentShift_a0_.other W12 (Or.inr (slot_ne (Or.inr (hw _ (List.mem_of_getElem? (i := 36) rfl))) (Or.inr (hw _ (List.mem_of_getElem? (i := 38) rfl))) (by decide) (t := .int) (t' := .int) (by decide) (by decide)))
  replace F_segmentUnits_a0_ := F_segmentUnits_a0_.same W12
  replace X_a0_ := X_a0_.wr W12
  replace V_b1 := V_b1.other W12 (Ne.symm ne_a0__b1)
  replace V_b4 := V_b4.other W12 (Ne.symm ne_a0__b4)
  replace Zs := Nat.le_trans Zs (Nat.le_of_eq W12.size.symm)
  replace K := K.wr W12 (Or.inl (by simp))
  exact ⟨_, _, (Own.Rch.ret0 r d2_36).more (by decide) (by decide), rfl, K, X_a0_, f11, e_f11, ⟩
theorem d1_0 : decode prog_38_method_1_code 0 = .ok (.aload_n 0, 1) := by decide +kernel
theorem d1_1 : decode prog_38_method_1_code 1 = .ok (.aload_n 1, 1) := by decide +kernel
theorem d1_2 : decode prog_38_method_1_code 2 = .ok (.bipush 19, 2) := by decide +kernel
theorem d1_4 : decode prog_38_method_1_code 4 = .ok (.invokespecial 3, 3) := by decide +kernel
theorem d1_7 : decode prog_38_method_1_code 7 = .ok (.return_, 1) := by decide +kernel
theorem pd_1_0 : parseMethodDescriptor "(Ljava/lang/String;I)V" = some ⟨[(.object "java/lang/String"), .int], none⟩ := by decide +kernel
theorem pn_1 : plainFor (⟨"com/example/debit/debit/metering/MappedBlocks", "<init>", "(Ljava/lang/String;)V"⟩ : MethodName) = true := plainFor_of_name (by first | (simp [plainName, overriddenIn, x]; done) | decide +kernel)
theorem ef_1 (a0_ : Addr) (a1_ : Addr) (m : MethodId) : entryFrame m #[(.ref a0_), (.ref a1_)] 2 = mkF m 0 #[.val (.ref a0_), .val (.ref a1_)] [] := by first | (simp [entryFrame, mkF, argsToLocals, Value.category, maxLocals]; done) | rfl
abbrev R1 : Room := ({ frames := 2, cells := 2, slots := 0, locals := 26 } : Room)
abbrev A1 (l : Launch) (Z : State) (n0 : Nat) (D : Own.Dyn) := Own.Rch l Z n0 R1 (⟨"com/example/debit/debit/metering/MappedBlocks", "<init>", "(Ljava/lang/String;)V"⟩ : MethodName) prog_38_method_1_code 2 none D
set_option maxRecDepth 65536 in
set_option maxHeartbeats 40000000 in
theorem c1 (l : Launch) (Z : State) (a0 : Array Value) (hw : ∀ d ∈ tables_1, d.before a0 Z = true) (n0 : Nat) (h : Heap) (Zs : n0 ≤ h.size) (a0_ : Addr) (a1_ : Addr) (u_segments : Value) (u_free : Value) (u_held : Value) (u_segmentShift : Value) (u_segmentUnits : Value) (F_segments_a0_ : Fld Z h a0_ "com/example/debit/debit/metering/MappedBlocks" "segments" "[Ljava/nio/ByteBuffer;" u_segments) (F_free_a0_ : Fld Z h a0_ "com/example/debit/debit/metering/MappedBlocks" "free" "[I" u_free) (F_held_a0_ : Fld Z h a0_ "com/example/debit/debit/metering/MappedBlocks" "held" "Ljava/lang/String;" u_held) (F_segmentShift_a0_ : Fld Z h a0_ "com/example/debit/debit/metering/MappedBlocks" "segmentShift" "I" u_segmentShift) (F_segmentUnits_a0_ : Fld Z h a0_ "com/example/debit/debit/metering/MappedBlocks" "segmentUnits" "I" u_segmentUnits) (X_a0_ : Exa Z h a0_ "com/example/debit/debit/metering/MappedBlocks") (ge_a0_ : n0 ≤ a0_) :
    Own.Con l Z n0 (⟨"com/example/debit/debit/metering/MappedBlocks", "<init>", "(Ljava/lang/String;)V"⟩ : MethodName) prog_38_method_1_code 2 none R1 #[(.ref a0_), (.ref a1_)] h (fun v h' => v = none ∧ Keep h h' [a0_] ∧ Exa Z h' a0_ "com/example/debit/debit/metering/MappedBlocks") := by
  refine Own.Con.enter pn_1 (ef_1 a0_ a1_) fun D r => ?_
  have K : Keep h h [a0_] := Keep.refl _ _
  replace r : A1 l Z n0 D h 0 0 1 #[.val (.ref a0_), .val (.ref a1_)] [(.ref a0_)] := Own.aloadN r d1_0 rfl rfl
  replace r : A1 l Z n0 D h 0 0 2 #[.val (.ref a0_), .val (.ref a1_)] [(.ref a1_), (.ref a0_)] := Own.aloadN r d1_1 rfl rfl
  replace r : A1 l Z n0 D h 0 0 4 #[.val (.ref a0_), .val (.ref a1_)] [(.int (19 : Int32)), (.ref a1_), (.ref a0_)] := Own.bipush r d1_2 rfl
  obtain ⟨rv1, h2, hQ3, r⟩ := Own.callI [(.ref a1_), (.int (19 : Int32))] r d1_4 (c2 l Z a0 hw n0 h Zs a0_ a1_ (19 : Int32) _ _ _ _ _ F_segments_a0_ F_free_a0_ F_held_a0_ F_segmentShift_a0_ F_segmentUnits_a0_ X_a0_ ge_a0_) (hw _ (List.mem_of_getElem? (i := 20) rfl)) (hw _ (List.mem_of_getElem? (i := 21) rfl)) (hw _ (List.mem_of_getElem? (i := 8) rfl)) (hw _ (List.mem_of_getElem? (i := 22) rfl)) rfl (lenOf pd_1_0 rfl) rfl rfl (W := 0) (Nat.le_of_eq rfl) rfl (by decide) (by decide) (by decide) (by decide) (by decide)
  obtain ⟨rfl, K4, X_a0_, u5, e_u5⟩ := hQ3
  replace Zs := Nat.le_trans Zs K4.1
  replace K := K.trans K4 (by simp [])
  replace r : A1 l Z n0 D h2 2 0 7 #[.val (.ref a0_), .val (.ref a1_)] [] := r
  exact ⟨_, _, (Own.Rch.ret0 r d1_7).more (by decide) (by decide), rfl, K, X_a0_⟩
theorem d4_0 : decode prog_36_method_1_code 0 = .ok (.aload_n 0, 1) := by decide +kernel
theorem d4_1 : decode prog_36_method_1_code 1 = .ok (.invokespecial 5, 3) := by decide +kernel
theorem d4_4 : decode prog_36_method_1_code 4 = .ok (.lload_n 3, 1) := by decide +kernel
theorem d4_5 : decode prog_36_method_1_code 5 = .ok (.ldc2_w 13, 3) := by decide +kernel
theorem d4_8 : decode prog_36_method_1_code 8 = .ok (.lcmp, 1) := by decide +kernel
theorem d4_9 : decode prog_36_method_1_code 9 = .ok (.ifCond .le 17, 3) := by decide +kernel
theorem d4_26 : decode prog_36_method_1_code 26 = .ok (.aload_n 0, 1) := by decide +kernel
theorem d4_27 : decode prog_36_method_1_code 27 = .ok (.aload_n 1, 1) := by decide +kernel
theorem d4_28 : decode prog_36_method_1_code 28 = .ok (.putfield 24, 3) := by decide +kernel
theorem d4_31 : decode prog_36_method_1_code 31 = .ok (.aload_n 0, 1) := by decide +kernel
theorem d4_32 : decode prog_36_method_1_code 32 = .ok (.iload_n 2, 1) := by decide +kernel
theorem d4_33 : decode prog_36_method_1_code 33 = .ok (.putfield 28, 3) := by decide +kernel
theorem d4_36 : decode prog_36_method_1_code 36 = .ok (.aload_n 0, 1) := by decide +kernel
theorem d4_37 : decode prog_36_method_1_code 37 = .ok (.lload_n 3, 1) := by decide +kernel
theorem d4_38 : decode prog_36_method_1_code 38 = .ok (.ldc2_w 32, 3) := by decide +kernel
theorem d4_41 : decode prog_36_method_1_code 41 = .ok (.lcmp, 1) := by decide +kernel
theorem d4_42 : decode prog_36_method_1_code 42 = .ok (.ifCond .le 7, 3) := by decide +kernel
theorem d4_45 : decode prog_36_method_1_code 45 = .ok (.iconst 1, 1) := by decide +kernel
theorem d4_46 : decode prog_36_method_1_code 46 = .ok (.goto 4, 3) := by decide +kernel
theorem d4_49 : decode prog_36_method_1_code 49 = .ok (.iconst 0, 1) := by decide +kernel
theorem d4_50 : decode prog_36_method_1_code 50 = .ok (.putfield 34, 3) := by decide +kernel
theorem d4_53 : decode prog_36_method_1_code 53 = .ok (.return_, 1) := by decide +kernel
theorem pn_4 : plainFor (⟨"com/example/debit/debit/metering/KwhSums", "<init>", "(Lcom/example/debit/debit/metering/MappedBlocks;IJ)V"⟩ : MethodName) = true := plainFor_of_name (by first | (simp [plainName, overriddenIn, x]; done) | decide +kernel)
theorem ef_4 (a0_ : Addr) (a1_ : Addr) (p2 : Int32) (q3 : Int64) (m : MethodId) : entryFrame m #[(.ref a0_), (.ref a1_), (.int p2), (.long q3)] 5 = mkF m 0 #[.val (.ref a0_), .val (.ref a1_), .val (.int p2), .val (.long q3), .second] [] := by first | (simp [entryFrame, mkF, argsToLocals, Value.category, maxLocals]; done) | rfl
abbrev R4 : Room := ({ frames := 1, cells := 0, slots := 0, locals := 12 } : Room)
abbrev A4 (l : Launch) (Z : State) (n0 : Nat) (D : Own.Dyn) := Own.Rch l Z n0 R4 (⟨"com/example/debit/debit/metering/KwhSums", "<init>", "(Lcom/example/debit/debit/metering/MappedBlocks;IJ)V"⟩ : MethodName) prog_36_method_1_code 5 none D
set_option maxRecDepth 65536 in
set_option maxHeartbeats 40000000 in
theorem c4 (l : Launch) (Z : State) (a0 : Array Value) (hw : ∀ d ∈ tables_1, d.before a0 Z = true) (n0 : Nat) (h : Heap) (Zs : n0 ≤ h.size) (a0_ : Addr) (a1_ : Addr) (p2 : Int32) (q3 : Int64) (u_blocks : Value) (u_size : Value) (u_wide : Value) (F_blocks_a0_ : Fld Z h a0_ "com/example/debit/debit/metering/KwhSums" "blocks" "Lcom/example/debit/debit/metering/MappedBlocks;" u_blocks) (F_size_a0_ : Fld Z h a0_ "com/example/debit/debit/metering/KwhSums" "size" "I" u_size) (F_wide_a0_ : Fld Z h a0_ "com/example/debit/debit/metering/KwhSums" "wide" "Z" u_wide) (X_a0_ : Exa Z h a0_ "com/example/debit/debit/metering/KwhSums") (ge_a0_ : n0 ≤ a0_) (hle : ¬ (4611686018427387903 : Int64) < q3) :
    Own.Con l Z n0 (⟨"com/example/debit/debit/metering/KwhSums", "<init>", "(Lcom/example/debit/debit/metering/MappedBlocks;IJ)V"⟩ : MethodName) prog_36_method_1_code 5 none R4 #[(.ref a0_), (.ref a1_), (.int p2), (.long q3)] h (fun v h' => v = none ∧ Keep h h' [a0_] ∧ Exa Z h' a0_ "com/example/debit/debit/metering/KwhSums" ∧ ∃ m5 : Int32, m5 = (if (1073741823 : Int64) < q3 then (1 : Int32) else (0 : Int32)) ∧ Fld Z h' a0_ "com/example/debit/debit/metering/KwhSums" "blocks" "Lcom/example/debit/debit/metering/MappedBlocks;" (.ref a1_) ∧ Fld Z h' a0_ "com/example/debit/debit/metering/KwhSums" "size" "I" (.int p2) ∧ Fld Z h' a0_ "com/example/debit/debit/metering/KwhSums" "wide" "Z" (.int m5)) := by
  refine Own.Con.enter pn_4 (ef_4 a0_ a1_ p2 q3) fun D r => ?_
  have K : Keep h h [a0_] := Keep.refl _ _
  replace r : A4 l Z n0 D h 0 0 1 #[.val (.ref a0_), .val (.ref a1_), .val (.int p2), .val (.long q3), .second] [(.ref a0_)] := Own.aloadN r d4_0 rfl rfl
  replace r : A4 l Z n0 D h 0 0 4 #[.val (.ref a0_), .val (.ref a1_), .val (.int p2), .val (.long q3), .second] [] := Own.initObj r d4_1 (hw _ (List.mem_of_getElem? (i := 42) rfl)) (hw _ (List.mem_of_getElem? (i := 24) rfl)) (hw _ (List.mem_of_getElem? (i := 25) rfl)) rfl (by decide) (W := 0) (Nat.le_of_eq rfl) (by decide)
  replace r : A4 l Z n0 D h 0 0 5 #[.val (.ref a0_), .val (.ref a1_), .val (.int p2), .val (.long q3), .second] [(.long q3)] := Own.lloadN r d4_4 rfl
  replace r : A4 l Z n0 D h 0 0 8 #[.val (.ref a0_), .val (.ref a1_), .val (.int p2), .val (.long q3), .second] [(.long (4611686018427387903 : Int64)), (.long q3)] := Own.ldcJ r d4_5 (hw _ (List.mem_of_getElem? (i := 43) rfl))
  replace r : A4 l Z n0 D h 0 0 9 #[.val (.ref a0_), .val (.ref a1_), .val (.int p2), .val (.long q3), .second] [(.int (XT.cmpL q3 (4611686018427387903 : Int64)))] := Own.lcmp r d4_8
  replace r : A4 l Z n0 D h 0 0 26 #[.val (.ref a0_), .val (.ref a1_), .val (.int p2), .val (.long q3), .second] [] := Own.ifYes r d4_9 (XT.ll_le_t hle) (by decide) (by decide)
  replace r : A4 l Z n0 D h 0 0 27 #[.val (.ref a0_), .val (.ref a1_), .val (.int p2), .val (.long q3), .second] [(.ref a0_)] := Own.aloadN r d4_26 rfl rfl
  replace r : A4 l Z n0 D h 0 0 28 #[.val (.ref a0_), .val (.ref a1_), .val (.int p2), .val (.long q3), .second] [(.ref a1_), (.ref a0_)] := Own.aloadN r d4_27 rfl rfl
  obtain ⟨h2, W1, r⟩ := Own.putfield r d4_28 (host := "") (Or.inl (hw _ (List.mem_of_getElem? (i := 44) rfl))) Via.refl F_blocks_a0_ X_a0_ (Or.inr ⟨(hw _ (List.mem_of_getElem? (i := 45) rfl)), rfl, rfl⟩) (hw _ (List.mem_of_getElem? (i := 4) rfl)) (ty := (.object "com/example/debit/debit/metering/MappedBlocks")) (by decide) rfl rfl ge_a0_
  replace r : A4 l Z n0 D h2 0 0 31 #[.val (.ref a0_), .val (.ref a1_), .val (.int p2), .val (.long q3), .second] [] := r
  replace F_blocks_a0_ := F_blocks_a0_.same W1
  replace F_size_a0_ := F_size_a0_.other W1 (Or.inr (slot_ne (Or.inr (hw _ (List.mem_of_getElem? (i := 47) rfl))) (Or.inr (hw _ (List.mem_of_getElem? (i := 45) rfl))) (by decide) (t := .int) (t' := (.object "com/example/debit/debit/metering/MappedBlocks")) (by decide) (by decide)))
  replace F_wide_a0_ := F_wide_a0_.other W1 (Or.inr (slot_ne (Or.inr (hw _ (List.mem_of_getElem? (i := 50) rfl))) (Or.inr (hw _ (List.mem_of_getElem? (i := 45) rfl))) (by decide) (t := .boolean) (t' := (.object "com/example/debit/debit/metering/MappedBlocks")) (by decide) (by decide)))
  replace X_a0_ := X_a0_.wr W1
  replace Zs := Nat.le_trans Zs (Nat.le_of_eq W1.size.symm)
  replace K := K.wr W1 (Or.inl (by simp))
  replace r : A4 l Z n0 D h2 0 0 32 #[.val (.ref a0_), .val (.ref a1_), .val (.int p2), .val (.long q3), .second] [(.ref a0_)] := Own.aloadN r d4_31 rfl rfl
  replace r : A4 l Z n0 D h2 0 0 33 #[.val (.ref a0_), .val (.ref a1_), .val (.int p2), .val (.long q3), .second] [(.int p2), (.ref a0_)] := Own.iloadN r d4_32 rfl
  obtain ⟨h4, W3, r⟩ := Own.putfield r d4_33 (host := "") (Or.inl (hw _ (List.mem_of_getElem? (i := 46) rfl))) Via.refl F_size_a0_ X_a0_ (Or.inr ⟨(hw _ (List.mem_of_getElem? (i := 47) rfl)), rfl, rfl⟩) (hw _ (List.mem_of_getElem? (i := 4) rfl)) (ty := .int) (by decide) rfl rfl ge_a0_
  replace r : A4 l Z n0 D h4 0 0 36 #[.val (.ref a0_), .val (.ref a1_), .val (.int p2), .val (.long q3), .second] [] := r
  replace F_blocks_a0_ := F_blocks_a0_.other W3 (Or.inr (slot_ne (Or.inr (hw _ (List.mem_of_getElem? (i := 45) rfl))) (Or.inr (hw _ (List.mem_of_getElem? (i := 47) rfl))) (by decide) (t := (.object "com/example/debit/debit/metering/MappedBlocks")) (t' := .int) (by decide) (by decide)))
  replace F_size_a0_ := F_size_a0_.same W3
  replace F_wide_a0_ := F_wide_a0_.other W3 (Or.inr (slot_ne (Or.inr (hw _ (List.mem_of_getElem? (i := 50) rfl))) (Or.inr (hw _ (List.mem_of_getElem? (i := 47) rfl))) (by decide) (t := .boolean) (t' := .int) (by decide) (by decide)))
  replace X_a0_ := X_a0_.wr W3
  replace Zs := Nat.le_trans Zs (Nat.le_of_eq W3.size.symm)
  replace K := K.wr W3 (Or.inl (by simp))
  replace r : A4 l Z n0 D h4 0 0 37 #[.val (.ref a0_), .val (.ref a1_), .val (.int p2), .val (.long q3), .second] [(.ref a0_)] := Own.aloadN r d4_36 rfl rfl
  replace r : A4 l Z n0 D h4 0 0 38 #[.val (.ref a0_), .val (.ref a1_), .val (.int p2), .val (.long q3), .second] [(.long q3), (.ref a0_)] := Own.lloadN r d4_37 rfl
  replace r : A4 l Z n0 D h4 0 0 41 #[.val (.ref a0_), .val (.ref a1_), .val (.int p2), .val (.long q3), .second] [(.long (1073741823 : Int64)), (.long q3), (.ref a0_)] := Own.ldcJ r d4_38 (hw _ (List.mem_of_getElem? (i := 48) rfl))
  replace r : A4 l Z n0 D h4 0 0 42 #[.val (.ref a0_), .val (.ref a1_), .val (.int p2), .val (.long q3), .second] [(.int (XT.cmpL q3 (1073741823 : Int64))), (.ref a0_)] := Own.lcmp r d4_41
  obtain ⟨m5, e_m5, r⟩ : ∃ (m5 : Int32), m5 = (if (1073741823 : Int64) < q3 then (1 : Int32) else (0 : Int32)) ∧ A4 l Z n0 D h4 0 0 50 #[.val (.ref a0_), .val (.ref a1_), .val (.int p2), .val (.long q3), .second] [(.int m5), (.ref a0_)] := by
    by_cases br6 : (1073741823 : Int64) < q3
    · skip
      replace r : A4 l Z n0 D h4 0 0 45 #[.val (.ref a0_), .val (.ref a1_), .val (.int p2), .val (.long q3), .second] [(.ref a0_)] := Own.ifNo r d4_42 (XT.ll_le_f br6)
      replace r : A4 l Z n0 D h4 0 0 46 #[.val (.ref a0_), .val (.ref a1_), .val (.int p2), .val (.long q3), .second] [(.int (1 : Int32)), (.ref a0_)] := Own.iconst r d4_45 rfl
      replace r : A4 l Z n0 D h4 0 0 50 #[.val (.ref a0_), .val (.ref a1_), .val (.int p2), .val (.long q3), .second] [(.int (1 : Int32)), (.ref a0_)] := Own.goto r d4_46 (by decide) (by decide)
      exact ⟨_, by rw [if_pos br6], r⟩
    · skip
      replace r : A4 l Z n0 D h4 0 0 49 #[.val (.ref a0_), .val (.ref a1_), .val (.int p2), .val (.long q3), .second] [(.ref a0_)] := Own.ifYes r d4_42 (XT.ll_le_t br6) (by decide) (by decide)
      replace r : A4 l Z n0 D h4 0 0 50 #[.val (.ref a0_), .val (.ref a1_), .val (.int p2), .val (.long q3), .second] [(.int (0 : Int32)), (.ref a0_)] := Own.iconst r d4_49 rfl
      exact ⟨_, by rw [if_neg br6], r⟩
  obtain ⟨h8, W7, r⟩ := Own.putfield r d4_50 (host := "") (Or.inl (hw _ (List.mem_of_getElem? (i := 49) rfl))) Via.refl F_wide_a0_ X_a0_ (Or.inr ⟨(hw _ (List.mem_of_getElem? (i := 50) rfl)), rfl, rfl⟩) (hw _ (List.mem_of_getElem? (i := 4) rfl)) (ty := .boolean) (by decide) (by rw [e_m5]; (repeat' split) <;> rfl) (by rw [e_m5]; (repeat' split) <;> rfl) ge_a0_
  replace r : A4 l Z n0 D h8 0 0 53 #[.val (.ref a0_), .val (.ref a1_), .val (.int p2), .val (.long q3), .second] [] := r
  replace F_blocks_a0_ := F_blocks_a0_.other W7 (Or.inr (slot_ne (Or.inr (hw _ (List.mem_of_getElem? (i := 45) rfl))) (Or.inr (hw _ (List.mem_of_getElem? (i := 50) rfl))) (by decide) (t := (.object "com/example/debit/debit/metering/MappedBlocks")) (t' := .boolean) (by decide) (by decide)))
  replace F_size_a0_ := F_size_a0_.other W7 (Or.inr (slot_ne (Or.inr (hw _ (List.mem_of_getElem? (i := 47) rfl))) (Or.inr (hw _ (List.mem_of_getElem? (i := 50) rfl))) (by decide) (t := .int) (t' := .boolean) (by decide) (by decide)))
  replace F_wide_a0_ := F_wide_a0_.same W7
  replace X_a0_ := X_a0_.wr W7
  replace Zs := Nat.le_trans Zs (Nat.le_of_eq W7.size.symm)
  replace K := K.wr W7 (Or.inl (by simp))
  exact ⟨_, _, (Own.Rch.ret0 r d4_53).more (by decide) (by decide), rfl, K, X_a0_, m5, e_m5, F_blocks_a0_, F_size_a0_, F_wide_a0_⟩
theorem d5_0 : decode prog_36_method_2_code 0 = .ok (.aload_n 0, 1) := by decide +kernel
theorem d5_1 : decode prog_36_method_2_code 1 = .ok (.getfield 34, 3) := by decide +kernel
theorem d5_4 : decode prog_36_method_2_code 4 = .ok (.ifCond .eq 12, 3) := by decide +kernel
theorem d5_7 : decode prog_36_method_2_code 7 = .ok (.iconst 2, 1) := by decide +kernel
theorem d5_8 : decode prog_36_method_2_code 8 = .ok (.aload_n 0, 1) := by decide +kernel
theorem d5_9 : decode prog_36_method_2_code 9 = .ok (.getfield 28, 3) := by decide +kernel
theorem d5_12 : decode prog_36_method_2_code 12 = .ok (.imul, 1) := by decide +kernel
theorem d5_13 : decode prog_36_method_2_code 13 = .ok (.goto 7, 3) := by decide +kernel
theorem d5_16 : decode prog_36_method_2_code 16 = .ok (.aload_n 0, 1) := by decide +kernel
theorem d5_17 : decode prog_36_method_2_code 17 = .ok (.getfield 28, 3) := by decide +kernel
theorem d5_20 : decode prog_36_method_2_code 20 = .ok (.ireturn, 1) := by decide +kernel
theorem pn_5 : plainFor (⟨"com/example/debit/debit/metering/KwhSums", "ints", "()I"⟩ : MethodName) = true := plainFor_of_name (by first | (simp [plainName, overriddenIn, x]; done) | decide +kernel)
theorem ef_5 (a0_ : Addr) (m : MethodId) : entryFrame m #[(.ref a0_)] 1 = mkF m 0 #[.val (.ref a0_)] [] := by first | (simp [entryFrame, mkF, argsToLocals, Value.category, maxLocals]; done) | rfl
abbrev R5 : Room := ({ frames := 0, cells := 0, slots := 0, locals := 0 } : Room)
abbrev A5 (l : Launch) (Z : State) (n0 : Nat) (D : Own.Dyn) := Own.Rch l Z n0 R5 (⟨"com/example/debit/debit/metering/KwhSums", "ints", "()I"⟩ : MethodName) prog_36_method_2_code 1 (some .int) D
def S5 (wd : Int32) (sz : Int32) (w : Int32) : Prop := ∃ m1 : Int32, m1 = (if wd = (0 : Int32) then sz else ((2 : Int32) * sz)) ∧ w = m1
set_option maxRecDepth 65536 in
set_option maxHeartbeats 40000000 in
theorem c5 (l : Launch) (Z : State) (a0 : Array Value) (hw : ∀ d ∈ tables_1, d.before a0 Z = true) (n0 : Nat) (h : Heap) (Zs : n0 ≤ h.size) (a0_ : Addr) (wd : Int32) (sz : Int32) (F_wide_a0_ : Fld Z h a0_ "com/example/debit/debit/metering/KwhSums" "wide" "Z" (.int wd)) (F_size_a0_ : Fld Z h a0_ "com/example/debit/debit/metering/KwhSums" "size" "I" (.int sz)) :
    Own.Con l Z n0 (⟨"com/example/debit/debit/metering/KwhSums", "ints", "()I"⟩ : MethodName) prog_36_method_2_code 1 (some .int) R5 #[(.ref a0_)] h (fun v h' => h = h' ∧ ∃ w : Int32, v = some (.int w) ∧ S5 wd sz w) := by
  refine Own.Con.enter pn_5 (ef_5 a0_) fun D r => ?_
  replace r : A5 l Z n0 D h 0 0 1 #[.val (.ref a0_)] [(.ref a0_)] := Own.aloadN r d5_0 rfl rfl
  replace r : A5 l Z n0 D h 0 0 4 #[.val (.ref a0_)] [(.int wd)] := Own.getfield r d5_1 (host := "") (Or.inl (hw _ (List.mem_of_getElem? (i := 49) rfl))) Via.refl F_wide_a0_
  obtain ⟨m1, e_m1, r⟩ : ∃ (m1 : Int32), m1 = (if wd = (0 : Int32) then sz else ((2 : Int32) * sz)) ∧ A5 l Z n0 D h 0 0 20 #[.val (.ref a0_)] [(.int m1)] := by
    by_cases br2 : wd = (0 : Int32)
    · skip
      replace r : A5 l Z n0 D h 0 0 16 #[.val (.ref a0_)] [] := Own.ifYes r d5_4 ((if0 _ _).trans (teq br2).1) (by decide) (by decide)
      replace r : A5 l Z n0 D h 0 0 17 #[.val (.ref a0_)] [(.ref a0_)] := Own.aloadN r d5_16 rfl rfl
      replace r : A5 l Z n0 D h 0 0 20 #[.val (.ref a0_)] [(.int sz)] := Own.getfield r d5_17 (host := "") (Or.inl (hw _ (List.mem_of_getElem? (i := 46) rfl))) Via.refl F_size_a0_
      exact ⟨_, by rw [if_pos br2], r⟩
    · skip
      replace r : A5 l Z n0 D h 0 0 7 #[.val (.ref a0_)] [] := Own.ifNo r d5_4 ((if0 _ _).trans (feq br2).1)
      replace r : A5 l Z n0 D h 0 0 8 #[.val (.ref a0_)] [(.int (2 : Int32))] := Own.iconst r d5_7 rfl
      replace r : A5 l Z n0 D h 0 0 9 #[.val (.ref a0_)] [(.ref a0_), (.int (2 : Int32))] := Own.aloadN r d5_8 rfl rfl
      replace r : A5 l Z n0 D h 0 0 12 #[.val (.ref a0_)] [(.int sz), (.int (2 : Int32))] := Own.getfield r d5_9 (host := "") (Or.inl (hw _ (List.mem_of_getElem? (i := 46) rfl))) Via.refl F_size_a0_
      replace r : A5 l Z n0 D h 0 0 13 #[.val (.ref a0_)] [(.int ((2 : Int32) * sz))] := Own.imul r d5_12
      replace r : A5 l Z n0 D h 0 0 20 #[.val (.ref a0_)] [(.int ((2 : Int32) * sz))] := Own.goto r d5_13 (by decide) (by decide)
      exact ⟨_, by rw [if_neg br2], r⟩
  exact ⟨_, _, (Own.Rch.retI r d5_20).more (by decide) (by decide), rfl, _, rfl, ⟨m1, e_m1, rfl⟩⟩

theorem own_le {most v m : Int64} {k : Int32} (e : v = (Own.lremW most (4611686018427387904 : Int64))) (em : m = (if (k &&& (1 : Int32)) = (0 : Int32) then v else ((1073741822 : Int64) + ((Own.iushrW k (1 : Int32)) &&& (3 : Int32)).toInt64))) : ¬ (4611686018427387903 : Int64) < m := by
  rw [Int64.lt_iff_toInt_lt, em]
  have l1 : (4611686018427387903 : Int64).toInt = 4611686018427387903 := rfl
  split
  · have q := c_lrem most 4611686018427387904 4611686018427387904 rfl
    have e' : v.toInt = (most - (most / (4611686018427387904 : Int64)) * (4611686018427387904 : Int64)).toInt := by rw [e]; rfl
    by_cases c : 0 ≤ most.toInt
    · have := q.1 c; omega
    · have := q.2 (by omega); omega
  · have a := c_and (Own.iushrW k (1 : Int32)) 3 (by decide)
    have b := c_ladd 1073741822 ((Own.iushrW k (1 : Int32)) &&& (3 : Int32)).toInt64
    rw [c_i2l] at b
    have l2 : (1073741822 : Int64).toInt = 1073741822 := rfl
    have l3 : (3 : Int32).toInt = 3 := rfl
    have := ((1073741822 : Int64) + ((Own.iushrW k (1 : Int32)) &&& (3 : Int32)).toInt64).toInt_lt; have := ((1073741822 : Int64) + ((Own.iushrW k (1 : Int32)) &&& (3 : Int32)).toInt64).le_toInt
    omega
theorem own_law {s sz u y : Int32} {m ex : Int64} (e4 : sz = (s &&& (1073741823 : Int32))) (eu : u = (if (1073741823 : Int64) < m then (1 : Int32) else (0 : Int32))) (ee : ex = (if m < (1073741824 : Int64) then sz.toInt64 else ((2 : Int64) * sz.toInt64))) (ey : S5 u sz y) : y.toInt64 = ex := by
  obtain ⟨m1, e1, rfl⟩ := ey
  have b := c_and s 1073741823 (by decide)
  have bs : 0 ≤ sz.toInt ∧ sz.toInt ≤ 1073741823 := by rw [e4]; exact b
  have l1 : (1073741823 : Int64).toInt = 1073741823 := rfl
  have l2 : (1073741824 : Int64).toInt = 1073741824 := rfl
  by_cases c : m < (1073741824 : Int64)
  · have c' : ¬ (1073741823 : Int64) < m := by rw [Int64.lt_iff_toInt_lt] at c ⊢; omega
    rw [if_neg c'] at eu; rw [if_pos c] at ee
    rw [ee, e1, eu, if_pos rfl]
  · have c' : (1073741823 : Int64) < m := by rw [Int64.lt_iff_toInt_lt] at c ⊢; omega
    rw [if_pos c'] at eu; rw [if_neg c] at ee
    rw [ee, e1, eu, if_neg (by decide)]
    apply Int64.toInt_inj.mp
    rw [c_i2l]
    have p := c_imul 2 sz; have q := c_lmul 2 sz.toInt64
    rw [c_i2l] at q
    have t1 : (2 : Int32).toInt = 2 := rfl; have t2 : (2 : Int64).toInt = 2 := rfl
    rw [t1] at p; rw [t2] at q
    have := ((2 : Int32) * sz).toInt_lt; have := ((2 : Int32) * sz).le_toInt; have := ((2 : Int64) * sz.toInt64).toInt_lt; have := ((2 : Int64) * sz.toInt64).le_toInt
    omega

theorem pd_0_0 : parseMethodDescriptor "(Ljava/lang/String;)V" = some ⟨[(.object "java/lang/String")], none⟩ := by decide +kernel
theorem pd_0_1 : parseMethodDescriptor "(Lcom/example/debit/debit/metering/MappedBlocks;IJ)V" = some ⟨[(.object "com/example/debit/debit/metering/MappedBlocks"), .int, .long], none⟩ := by decide +kernel
theorem pd_0_2 : parseMethodDescriptor "()I" = some ⟨[], some .int⟩ := by decide +kernel
theorem pn_0 : plainFor x = true := plainFor_of_name (by first | (simp [plainName, overriddenIn, x]; done) | decide +kernel)
theorem ef_0 (s_ : Int32) (most : Int64) (k_ : Int32) (m : MethodId) : entryFrame m #[(.int s_), (.long most), (.int k_)] maxLocals = mkF m 0 #[.val (.int s_), .val (.long most), .second, .val (.int k_), .unset, .unset, .unset, .unset, .unset, .unset] [] := by first | (simp [entryFrame, mkF, argsToLocals, Value.category, maxLocals]; done) | rfl
abbrev R0 : Room := room_1
abbrev A0 (l : Launch) (Z : State) (n0 : Nat) (D : Own.Dyn) := Own.Rch l Z n0 R0 x code maxLocals ret D
set_option maxRecDepth 65536 in
set_option maxHeartbeats 40000000 in
theorem c0 (l : Launch) (Z : State) (a0 : Array Value) (hw : ∀ d ∈ tables_1, d.before a0 Z = true) (n0 : Nat) (h : Heap) (Zs : n0 ≤ h.size) (s_ : Int32) (most : Int64) (k_ : Int32) :
    Own.ConW l Z n0 x code maxLocals ret R0 #[(.int s_), (.long most), (.int k_)] h (fun v h' => v = some (.int 1)) := by
  refine Own.ConW.enter pn_0 (ef_0 s_ most k_) fun D r => ?_
  have RB := Own.Reb.refl D h
  replace r : A0 l Z n0 D h 0 0 1 #[.val (.int s_), .val (.long most), .second, .val (.int k_), .unset, .unset, .unset, .unset, .unset, .unset] [(.int s_)] := Own.iloadN r at_0 rfl
  replace r : A0 l Z n0 D h 0 0 3 #[.val (.int s_), .val (.long most), .second, .val (.int k_), .unset, .unset, .unset, .unset, .unset, .unset] [(.int (1073741823 : Int32)), (.int s_)] := Own.ldcI r at_1 (hw _ (List.mem_of_getElem? (i := 0) rfl))
  replace r : A0 l Z n0 D h 0 0 4 #[.val (.int s_), .val (.long most), .second, .val (.int k_), .unset, .unset, .unset, .unset, .unset, .unset] [(.int (s_ &&& (1073741823 : Int32)))] := Own.iand r at_3
  obtain ⟨v4_1, e_v4_1⟩ : ∃ z : Int32, z = (s_ &&& (1073741823 : Int32)) := ⟨_, rfl⟩
  replace r : A0 l Z n0 D h 0 0 4 #[.val (.int s_), .val (.long most), .second, .val (.int k_), .unset, .unset, .unset, .unset, .unset, .unset] [(.int v4_1)] := by rw [e_v4_1]; exact r
  replace r : A0 l Z n0 D h 0 0 6 #[.val (.int s_), .val (.long most), .second, .val (.int k_), .val (.int v4_1), .unset, .unset, .unset, .unset, .unset] [] := Own.istore r at_4 rfl
  replace r : A0 l Z n0 D h 0 0 7 #[.val (.int s_), .val (.long most), .second, .val (.int k_), .val (.int v4_1), .unset, .unset, .unset, .unset, .unset] [(.long most)] := Own.lloadN r at_6 rfl
  replace r : A0 l Z n0 D h 0 0 10 #[.val (.int s_), .val (.long most), .second, .val (.int k_), .val (.int v4_1), .unset, .unset, .unset, .unset, .unset] [(.long (4611686018427387904 : Int64)), (.long most)] := Own.ldcJ r at_7 (hw _ (List.mem_of_getElem? (i := 1) rfl))
  replace r : A0 l Z n0 D h 0 0 11 #[.val (.int s_), .val (.long most), .second, .val (.int k_), .val (.int v4_1), .unset, .unset, .unset, .unset, .unset] [(.long (Own.lremW most (4611686018427387904 : Int64)))] := Own.lrem r at_10 (by decide)
  obtain ⟨v5_2, e_v5_2⟩ : ∃ z : Int64, z = (Own.lremW most (4611686018427387904 : Int64)) := ⟨_, rfl⟩
  replace r : A0 l Z n0 D h 0 0 11 #[.val (.int s_), .val (.long most), .second, .val (.int k_), .val (.int v4_1), .unset, .unset, .unset, .unset, .unset] [(.long v5_2)] := by rw [e_v5_2]; exact r
  replace r : A0 l Z n0 D h 0 0 13 #[.val (.int s_), .val (.long most), .second, .val (.int k_), .val (.int v4_1), .val (.long v5_2), .second, .unset, .unset, .unset] [] := Own.lstore r at_11 rfl
  replace r : A0 l Z n0 D h 0 0 14 #[.val (.int s_), .val (.long most), .second, .val (.int k_), .val (.int v4_1), .val (.long v5_2), .second, .unset, .unset, .unset] [(.int k_)] := Own.iloadN r at_13 rfl
  replace r : A0 l Z n0 D h 0 0 15 #[.val (.int s_), .val (.long most), .second, .val (.int k_), .val (.int v4_1), .val (.long v5_2), .second, .unset, .unset, .unset] [(.int (1 : Int32)), (.int k_)] := Own.iconst r at_14 rfl
  replace r : A0 l Z n0 D h 0 0 16 #[.val (.int s_), .val (.long most), .second, .val (.int k_), .val (.int v4_1), .val (.long v5_2), .second, .unset, .unset, .unset] [(.int (k_ &&& (1 : Int32)))] := Own.iand r at_15
  obtain ⟨m3, e_m3, r⟩ : ∃ (m3 : Int64), m3 = (if (k_ &&& (1 : Int32)) = (0 : Int32) then v5_2 else ((1073741822 : Int64) + ((Own.iushrW k_ (1 : Int32)) &&& (3 : Int32)).toInt64)) ∧ A0 l Z n0 D h 0 0 31 #[.val (.int s_), .val (.long most), .second, .val (.int k_), .val (.int v4_1), .val (.long m3), .second, .unset, .unset, .unset] [] := by
    by_cases br4 : (k_ &&& (1 : Int32)) = (0 : Int32)
    · skip
      replace r : A0 l Z n0 D h 0 0 31 #[.val (.int s_), .val (.long most), .second, .val (.int k_), .val (.int v4_1), .val (.long v5_2), .second, .unset, .unset, .unset] [] := Own.ifYes r at_16 ((if0 _ _).trans (teq br4).1) (by decide) (by decide)
      exact ⟨_, by rw [if_pos br4], r⟩
    · skip
      replace r : A0 l Z n0 D h 0 0 19 #[.val (.int s_), .val (.long most), .second, .val (.int k_), .val (.int v4_1), .val (.long v5_2), .second, .unset, .unset, .unset] [] := Own.ifNo r at_16 ((if0 _ _).trans (feq br4).1)
      replace r : A0 l Z n0 D h 0 0 22 #[.val (.int s_), .val (.long most), .second, .val (.int k_), .val (.int v4_1), .val (.long v5_2), .second, .unset, .unset, .unset] [(.long (1073741822 : Int64))] := Own.ldcJ r at_19 (hw _ (List.mem_of_getElem? (i := 2) rfl))
      replace r : A0 l Z n0 D h 0 0 23 #[.val (.int s_), .val (.long most), .second, .val (.int k_), .val (.int v4_1), .val (.long v5_2), .second, .unset, .unset, .unset] [(.int k_), (.long (1073741822 : Int64))] := Own.iloadN r at_22 rfl
      replace r : A0 l Z n0 D h 0 0 24 #[.val (.int s_), .val (.long most), .second, .val (.int k_), .val (.int v4_1), .val (.long v5_2), .second, .unset, .unset, .unset] [(.int (1 : Int32)), (.int k_), (.long (1073741822 : Int64))] := Own.iconst r at_23 rfl
      replace r : A0 l Z n0 D h 0 0 25 #[.val (.int s_), .val (.long most), .second, .val (.int k_), .val (.int v4_1), .val (.long v5_2), .second, .unset, .unset, .unset] [(.int (Own.iushrW k_ (1 : Int32))), (.long (1073741822 : Int64))] := Own.iushr r at_24
      replace r : A0 l Z n0 D h 0 0 26 #[.val (.int s_), .val (.long most), .second, .val (.int k_), .val (.int v4_1), .val (.long v5_2), .second, .unset, .unset, .unset] [(.int (3 : Int32)), (.int (Own.iushrW k_ (1 : Int32))), (.long (1073741822 : Int64))] := Own.iconst r at_25 rfl
      replace r : A0 l Z n0 D h 0 0 27 #[.val (.int s_), .val (.long most), .second, .val (.int k_), .val (.int v4_1), .val (.long v5_2), .second, .unset, .unset, .unset] [(.int ((Own.iushrW k_ (1 : Int32)) &&& (3 : Int32))), (.long (1073741822 : Int64))] := Own.iand r at_26
      replace r : A0 l Z n0 D h 0 0 28 #[.val (.int s_), .val (.long most), .second, .val (.int k_), .val (.int v4_1), .val (.long v5_2), .second, .unset, .unset, .unset] [(.long ((Own.iushrW k_ (1 : Int32)) &&& (3 : Int32)).toInt64), (.long (1073741822 : Int64))] := Own.i2l r at_27
      replace r : A0 l Z n0 D h 0 0 29 #[.val (.int s_), .val (.long most), .second, .val (.int k_), .val (.int v4_1), .val (.long v5_2), .second, .unset, .unset, .unset] [(.long ((1073741822 : Int64) + ((Own.iushrW k_ (1 : Int32)) &&& (3 : Int32)).toInt64))] := Own.ladd r at_28
      replace r : A0 l Z n0 D h 0 0 31 #[.val (.int s_), .val (.long most), .second, .val (.int k_), .val (.int v4_1), .val (.long ((1073741822 : Int64) + ((Own.iushrW k_ (1 : Int32)) &&& (3 : Int32)).toInt64)), .second, .unset, .unset, .unset] [] := Own.lstore r at_29 rfl
      exact ⟨_, by rw [if_neg br4], r⟩
  obtain ⟨h5, ⟨E5, X_b5, D5⟩, r⟩ := Own.newObj r at_31 (hw _ (List.mem_of_getElem? (i := 3) rfl)) (hw _ (List.mem_of_getElem? (i := 4) rfl)) (hw _ (List.mem_of_getElem? (i := 5) rfl)) (by decide) (by decide)
  obtain ⟨b5, g5⟩ : ∃ z, z = h.size := ⟨_, rfl⟩
  rw [← g5] at X_b5 D5 r
  have ge_b5 : n0 ≤ b5 := Nat.le_trans Zs (Nat.le_of_eq g5.symm)
  replace Zs := Nat.le_trans Zs E5.1
  try replace RB := RB.grow E5.1
  replace r : A0 l Z n0 D h5 1 3 34 #[.val (.int s_), .val (.long most), .second, .val (.int k_), .val (.int v4_1), .val (.long m3), .second, .unset, .unset, .unset] [(.ref b5)] := r
  have F_blocks_b5 : Fld Z h5 b5 "com/example/debit/debit/metering/KwhSums" "blocks" "Lcom/example/debit/debit/metering/MappedBlocks;" .null := D5 (Or.inr (hw _ (List.mem_of_getElem? (i := 45) rfl))) (ty := (.object "com/example/debit/debit/metering/MappedBlocks")) (by decide)
  have F_size_b5 : Fld Z h5 b5 "com/example/debit/debit/metering/KwhSums" "size" "I" (.int (0 : Int32)) := D5 (Or.inr (hw _ (List.mem_of_getElem? (i := 47) rfl))) (ty := .int) (by decide)
  have F_wide_b5 : Fld Z h5 b5 "com/example/debit/debit/metering/KwhSums" "wide" "Z" (.int (0 : Int32)) := D5 (Or.inr (hw _ (List.mem_of_getElem? (i := 50) rfl))) (ty := .boolean) (by decide)
  replace r : A0 l Z n0 D h5 1 3 35 #[.val (.int s_), .val (.long most), .second, .val (.int k_), .val (.int v4_1), .val (.long m3), .second, .unset, .unset, .unset] [(.ref b5), (.ref b5)] := Own.dup r at_34 rfl
  obtain ⟨h6, ⟨E6, X_b6, D6⟩, r⟩ := Own.newObj r at_35 (hw _ (List.mem_of_getElem? (i := 6) rfl)) (hw _ (List.mem_of_getElem? (i := 7) rfl)) (hw _ (List.mem_of_getElem? (i := 8) rfl)) (by decide) (by decide)
  obtain ⟨b6, g6⟩ : ∃ z, z = h5.size := ⟨_, rfl⟩
  rw [← g6] at X_b6 D6 r
  have ge_b6 : n0 ≤ b6 := Nat.le_trans Zs (Nat.le_of_eq g6.symm)
  have ne_b5_b6 : b5 ≠ b6 := Own.ne_lt X_b5.lt g6
  replace X_b5 := X_b5.ext E6
  replace F_blocks_b5 := F_blocks_b5.ext E6
  replace F_size_b5 := F_size_b5.ext E6
  replace F_wide_b5 := F_wide_b5.ext E6
  replace Zs := Nat.le_trans Zs E6.1
  try replace RB := RB.grow E6.1
  replace r : A0 l Z n0 D h6 2 10 38 #[.val (.int s_), .val (.long most), .second, .val (.int k_), .val (.int v4_1), .val (.long m3), .second, .unset, .unset, .unset] [(.ref b6), (.ref b5), (.ref b5)] := r
  have F_segments_b6 : Fld Z h6 b6 "com/example/debit/debit/metering/MappedBlocks" "segments" "[Ljava/nio/ByteBuffer;" .null := D6 (Or.inl (hw _ (List.mem_of_getElem? (i := 29) rfl))) (ty := (.array (.object "java/nio/ByteBuffer"))) (by decide)
  have F_free_b6 : Fld Z h6 b6 "com/example/debit/debit/metering/MappedBlocks" "free" "[I" .null := D6 (Or.inl (hw _ (List.mem_of_getElem? (i := 32) rfl))) (ty := (.array .int)) (by decide)
  have F_held_b6 : Fld Z h6 b6 "com/example/debit/debit/metering/MappedBlocks" "held" "Ljava/lang/String;" .null := D6 (Or.inr (hw _ (List.mem_of_getElem? (i := 34) rfl))) (ty := (.object "java/lang/String")) (by decide)
  have F_segmentShift_b6 : Fld Z h6 b6 "com/example/debit/debit/metering/MappedBlocks" "segmentShift" "I" (.int (0 : Int32)) := D6 (Or.inr (hw _ (List.mem_of_getElem? (i := 36) rfl))) (ty := .int) (by decide)
  have F_segmentUnits_b6 : Fld Z h6 b6 "com/example/debit/debit/metering/MappedBlocks" "segmentUnits" "I" (.int (0 : Int32)) := D6 (Or.inr (hw _ (List.mem_of_getElem? (i := 38) rfl))) (ty := .int) (by decide)
  replace r : A0 l Z n0 D h6 2 10 39 #[.val (.int s_), .val (.long most), .second, .val (.int k_), .val (.int v4_1), .val (.long m3), .second, .unset, .unset, .unset] [(.ref b6), (.ref b6), (.ref b5), (.ref b5)] := Own.dup r at_38 rfl
  obtain ⟨D7, h7, b7, RB, E7, r⟩ := Own.ldcStr r RB at_39 (hw _ (List.mem_of_getElem? (i := 9) rfl)) (own_strs hw) (nn := 12) (by decide) (by decide) (by decide) (by decide)
  replace X_b5 := X_b5.ext E7
  replace F_blocks_b5 := F_blocks_b5.ext E7
  replace F_size_b5 := F_size_b5.ext E7
  replace F_wide_b5 := F_wide_b5.ext E7
  replace X_b6 := X_b6.ext E7
  replace F_segments_b6 := F_segments_b6.ext E7
  replace F_free_b6 := F_free_b6.ext E7
  replace F_held_b6 := F_held_b6.ext E7
  replace F_segmentShift_b6 := F_segmentShift_b6.ext E7
  replace F_segmentUnits_b6 := F_segmentUnits_b6.ext E7
  replace Zs := Nat.le_trans Zs E7.1
  try replace RB := RB.grow E7.1
  replace r : A0 l Z n0 D7 h7 4 26 41 #[.val (.int s_), .val (.long most), .second, .val (.int k_), .val (.int v4_1), .val (.long m3), .second, .unset, .unset, .unset] [(.ref b7), (.ref b6), (.ref b6), (.ref b5), (.ref b5)] := r
  obtain ⟨rv8, h9, hQ10, r⟩ := Own.callI [(.ref b7)] r at_41 (c1 l Z a0 hw n0 h7 Zs b6 b7 _ _ _ _ _ F_segments_b6 F_free_b6 F_held_b6 F_segmentShift_b6 F_segmentUnits_b6 X_b6 ge_b6) (hw _ (List.mem_of_getElem? (i := 17) rfl)) (hw _ (List.mem_of_getElem? (i := 18) rfl)) (hw _ (List.mem_of_getElem? (i := 8) rfl)) (hw _ (List.mem_of_getElem? (i := 19) rfl)) rfl (lenOf pd_0_0 rfl) rfl rfl (W := 3) (Nat.le_of_eq rfl) rfl (by decide) (by decide) (by decide) (by decide) (by decide)
  obtain ⟨rfl, K11, X_b6⟩ := hQ10
  replace X_b5 := X_b5.keep K11
  replace F_blocks_b5 := F_blocks_b5.keep K11 (by simp [ne_b5_b6])
  replace F_size_b5 := F_size_b5.keep K11 (by simp [ne_b5_b6])
  replace F_wide_b5 := F_wide_b5.keep K11 (by simp [ne_b5_b6])
  replace Zs := Nat.le_trans Zs K11.1
  replace RB := RB.grow K11.1
  replace r : A0 l Z n0 D7 h9 6 26 44 #[.val (.int s_), .val (.long most), .second, .val (.int k_), .val (.int v4_1), .val (.long m3), .second, .unset, .unset, .unset] [(.ref b6), (.ref b5), (.ref b5)] := r
  replace r : A0 l Z n0 D7 h9 6 26 46 #[.val (.int s_), .val (.long most), .second, .val (.int k_), .val (.int v4_1), .val (.long m3), .second, .unset, .unset, .unset] [(.int v4_1), (.ref b6), (.ref b5), (.ref b5)] := Own.iload r at_44 rfl
  replace r : A0 l Z n0 D7 h9 6 26 48 #[.val (.int s_), .val (.long most), .second, .val (.int k_), .val (.int v4_1), .val (.long m3), .second, .unset, .unset, .unset] [(.long m3), (.int v4_1), (.ref b6), (.ref b5), (.ref b5)] := Own.lload r at_46 rfl
  obtain ⟨rv12, h13, hQ14, r⟩ := Own.callI [(.ref b6), (.int v4_1), (.long m3)] r at_48 (c4 l Z a0 hw n0 h9 Zs b5 b6 v4_1 m3 _ _ _ F_blocks_b5 F_size_b5 F_wide_b5 X_b5 ge_b5 (own_le e_v5_2 e_m3)) (hw _ (List.mem_of_getElem? (i := 39) rfl)) (hw _ (List.mem_of_getElem? (i := 40) rfl)) (hw _ (List.mem_of_getElem? (i := 5) rfl)) (hw _ (List.mem_of_getElem? (i := 41) rfl)) rfl (lenOf pd_0_1 rfl) rfl rfl (W := 1) (Nat.le_of_eq rfl) rfl (by decide) (by decide) (by decide) (by decide) (by decide)
  obtain ⟨rfl, K15, X_b5, u16, e_u16, F_blocks_b5, F_size_b5, F_wide_b5⟩ := hQ14
  replace X_b6 := X_b6.keep K15
  replace Zs := Nat.le_trans Zs K15.1
  replace RB := RB.grow K15.1
  replace r : A0 l Z n0 D7 h13 6 26 51 #[.val (.int s_), .val (.long most), .second, .val (.int k_), .val (.int v4_1), .val (.long m3), .second, .unset, .unset, .unset] [(.ref b5)] := r
  replace r : A0 l Z n0 D7 h13 6 26 53 #[.val (.int s_), .val (.long most), .second, .val (.int k_), .val (.int v4_1), .val (.long m3), .second, .val (.ref b5), .unset, .unset] [] := Own.astore r at_51 rfl rfl
  replace r : A0 l Z n0 D7 h13 6 26 55 #[.val (.int s_), .val (.long most), .second, .val (.int k_), .val (.int v4_1), .val (.long m3), .second, .val (.ref b5), .unset, .unset] [(.long m3)] := Own.lload r at_53 rfl
  replace r : A0 l Z n0 D7 h13 6 26 58 #[.val (.int s_), .val (.long most), .second, .val (.int k_), .val (.int v4_1), .val (.long m3), .second, .val (.ref b5), .unset, .unset] [(.long (1073741824 : Int64)), (.long m3)] := Own.ldcJ r at_55 (hw _ (List.mem_of_getElem? (i := 51) rfl))
  replace r : A0 l Z n0 D7 h13 6 26 59 #[.val (.int s_), .val (.long most), .second, .val (.int k_), .val (.int v4_1), .val (.long m3), .second, .val (.ref b5), .unset, .unset] [(.int (XT.cmpL m3 (1073741824 : Int64)))] := Own.lcmp r at_58
  obtain ⟨m17, e_m17, r⟩ : ∃ (m17 : Int64), m17 = (if m3 < (1073741824 : Int64) then v4_1.toInt64 else ((2 : Int64) * v4_1.toInt64)) ∧ A0 l Z n0 D7 h13 6 26 75 #[.val (.int s_), .val (.long most), .second, .val (.int k_), .val (.int v4_1), .val (.long m3), .second, .val (.ref b5), .unset, .unset] [(.long m17)] := by
    by_cases br18 : m3 < (1073741824 : Int64)
    · skip
      replace r : A0 l Z n0 D7 h13 6 26 72 #[.val (.int s_), .val (.long most), .second, .val (.int k_), .val (.int v4_1), .val (.long m3), .second, .val (.ref b5), .unset, .unset] [] := Own.ifYes r at_59 (XT.ll_lt_t br18) (by decide) (by decide)
      replace r : A0 l Z n0 D7 h13 6 26 74 #[.val (.int s_), .val (.long most), .second, .val (.int k_), .val (.int v4_1), .val (.long m3), .second, .val (.ref b5), .unset, .unset] [(.int v4_1)] := Own.iload r at_72 rfl
      replace r : A0 l Z n0 D7 h13 6 26 75 #[.val (.int s_), .val (.long most), .second, .val (.int k_), .val (.int v4_1), .val (.long m3), .second, .val (.ref b5), .unset, .unset] [(.long v4_1.toInt64)] := Own.i2l r at_74
      exact ⟨_, by rw [if_pos br18], r⟩
    · skip
      replace r : A0 l Z n0 D7 h13 6 26 62 #[.val (.int s_), .val (.long most), .second, .val (.int k_), .val (.int v4_1), .val (.long m3), .second, .val (.ref b5), .unset, .unset] [] := Own.ifNo r at_59 (XT.ll_lt_f br18)
      replace r : A0 l Z n0 D7 h13 6 26 65 #[.val (.int s_), .val (.long most), .second, .val (.int k_), .val (.int v4_1), .val (.long m3), .second, .val (.ref b5), .unset, .unset] [(.long (2 : Int64))] := Own.ldcJ r at_62 (hw _ (List.mem_of_getElem? (i := 57) rfl))
      replace r : A0 l Z n0 D7 h13 6 26 67 #[.val (.int s_), .val (.long most), .second, .val (.int k_), .val (.int v4_1), .val (.long m3), .second, .val (.ref b5), .unset, .unset] [(.int v4_1), (.long (2 : Int64))] := Own.iload r at_65 rfl
      replace r : A0 l Z n0 D7 h13 6 26 68 #[.val (.int s_), .val (.long most), .second, .val (.int k_), .val (.int v4_1), .val (.long m3), .second, .val (.ref b5), .unset, .unset] [(.long v4_1.toInt64), (.long (2 : Int64))] := Own.i2l r at_67
      replace r : A0 l Z n0 D7 h13 6 26 69 #[.val (.int s_), .val (.long most), .second, .val (.int k_), .val (.int v4_1), .val (.long m3), .second, .val (.ref b5), .unset, .unset] [(.long ((2 : Int64) * v4_1.toInt64))] := Own.lmul r at_68
      replace r : A0 l Z n0 D7 h13 6 26 75 #[.val (.int s_), .val (.long most), .second, .val (.int k_), .val (.int v4_1), .val (.long m3), .second, .val (.ref b5), .unset, .unset] [(.long ((2 : Int64) * v4_1.toInt64))] := Own.goto r at_69 (by decide) (by decide)
      exact ⟨_, by rw [if_neg br18], r⟩
  replace r : A0 l Z n0 D7 h13 6 26 77 #[.val (.int s_), .val (.long most), .second, .val (.int k_), .val (.int v4_1), .val (.long m3), .second, .val (.ref b5), .val (.long m17), .second] [] := Own.lstore r at_75 rfl
  replace r : A0 l Z n0 D7 h13 6 26 79 #[.val (.int s_), .val (.long most), .second, .val (.int k_), .val (.int v4_1), .val (.long m3), .second, .val (.ref b5), .val (.long m17), .second] [(.ref b5)] := Own.aload r at_77 rfl rfl
  obtain ⟨rv19, h20, hQ21, r⟩ := Own.callV [] r at_79 (c5 l Z a0 hw n0 h13 Zs b5 u16 v4_1 F_wide_b5 F_size_b5) X_b5 (hw _ (List.mem_of_getElem? (i := 52) rfl)) (hw _ (List.mem_of_getElem? (i := 53) rfl)) (Own.nfS (hw _ (List.mem_of_getElem? (i := 55) rfl))) (hw _ (List.mem_of_getElem? (i := 55) rfl)) (hw _ (List.mem_of_getElem? (i := 54) rfl)) (hw _ (List.mem_of_getElem? (i := 5) rfl)) (hw _ (List.mem_of_getElem? (i := 56) rfl)) (lenOf pd_0_2 rfl) rfl rfl (W := 0) (Nat.le_of_eq rfl) rfl (by decide) (by decide) (by decide) (by decide) (by decide)
  obtain ⟨rfl, y22, rfl, e_y22⟩ := hQ21
  replace r : A0 l Z n0 D7 h13 6 26 82 #[.val (.int s_), .val (.long most), .second, .val (.int k_), .val (.int v4_1), .val (.long m3), .second, .val (.ref b5), .val (.long m17), .second] [(.int y22)] := r
  replace r : A0 l Z n0 D7 h13 6 26 83 #[.val (.int s_), .val (.long most), .second, .val (.int k_), .val (.int v4_1), .val (.long m3), .second, .val (.ref b5), .val (.long m17), .second] [(.long y22.toInt64)] := Own.i2l r at_82
  replace r : A0 l Z n0 D7 h13 6 26 85 #[.val (.int s_), .val (.long most), .second, .val (.int k_), .val (.int v4_1), .val (.long m3), .second, .val (.ref b5), .val (.long m17), .second] [(.long m17), (.long y22.toInt64)] := Own.lload r at_83 rfl
  replace r : A0 l Z n0 D7 h13 6 26 86 #[.val (.int s_), .val (.long most), .second, .val (.int k_), .val (.int v4_1), .val (.long m3), .second, .val (.ref b5), .val (.long m17), .second] [(.int (XT.cmpL y22.toInt64 m17))] := Own.lcmp r at_85
  replace r : A0 l Z n0 D7 h13 6 26 89 #[.val (.int s_), .val (.long most), .second, .val (.int k_), .val (.int v4_1), .val (.long m3), .second, .val (.ref b5), .val (.long m17), .second] [] := Own.ifNo r at_86 (XT.ll_ne_f (own_law e_v4_1 e_u16 e_m17 e_y22))
  replace r : A0 l Z n0 D7 h13 6 26 90 #[.val (.int s_), .val (.long most), .second, .val (.int k_), .val (.int v4_1), .val (.long m3), .second, .val (.ref b5), .val (.long m17), .second] [(.int (1 : Int32))] := Own.iconst r at_89 rfl
  replace r : A0 l Z n0 D7 h13 6 26 94 #[.val (.int s_), .val (.long most), .second, .val (.int k_), .val (.int v4_1), .val (.long m3), .second, .val (.ref b5), .val (.long m17), .second] [(.int (1 : Int32))] := Own.goto r at_90 (by decide) (by decide)
  exact ⟨_, _, _, RB, (Own.Rch.retZ (y := x) (bytes := code) (mx := maxLocals) r at_94 (by decide)).more (by decide) (by decide), rfl⟩
set_option maxRecDepth 65536 in
set_option maxHeartbeats 40000000 in
theorem comes_1 {Post : Tables → Env → Array Value → State → Outcome → State → Prop} (hpost : ∀ tb e args s v u, (limb_1_1.after args s (.returned v) u = true ∧ limb_1_2.after args s (.returned v) u = true ∧ True) → Jvm.D.FramedW s (.returned v) u (Jvm.fieldLocs frame_1_writes args s ++ Jvm.arrayLocs frame_1_arrays args s ++ Jvm.staticLocs frame_1_statics s) 24 1152 → Post tb e args s (.returned v) u) :
    ArmFor flags0 classFile x code maxLocals ret World_1 tables_1 room_1 Calls_1 rest_1 Pre_1 Post := by
  intro l hfl _ _ p e ha hc hk s m args below hf hA hF happ hP
  obtain ⟨hcalls, hrest, hpre⟩ := hP
  obtain ⟨-, -, -, hnamed, -, -, -, hat⟩ := (Spec.applies_iff hf).mp happ
  obtain ⟨hg, hn⟩ := and_e (Cond.before_iff.mp (show (Jvm.Cond.and given_1 narrow_1).before args s = true from hpre))
  obtain ⟨g1, g2⟩ := and_e hg
  obtain ⟨g3, g4⟩ := and_e g2
  obtain ⟨g5, g6⟩ := and_e g4
  obtain ⟨w0, w1, w2, rfl⟩ : ∃ w0 w1 w2 : Value, args = #[w0, w1, w2] := by
    have hs : args.size = 3 := by simpa [Cond.value, given_1] using g1
    obtain ⟨L⟩ := args
    match L, hs with
    | [w0, w1, w2], _ => exact ⟨w0, w1, w2, rfl⟩
  have hw := fun d (hd : d ∈ tables_1) => atoms_spec (ws := Jvm.Cond.code x code maxLocals ret :: tables_1) hat d (List.mem_cons_of_mem _ hd)
  have hfit : Fit s := fun {y c} hc i hi => by
    obtain ⟨ha, rfl⟩ := Array.getElem?_eq_some_iff.mp hc
    have q := List.all_eq_true.mp ((Array.all_eq_true_iff_forall_mem.mp hF) _ (Array.getElem_mem ha)) i (List.mem_range.mpr hi)
    simpa [Array.getElem?_eq_getElem hi] using q
  obtain ⟨i0, ei0⟩ := is_v g3
  obtain rfl : w0 = (.int i0) := Option.some.inj ei0
  obtain ⟨i1, ei1⟩ := isL_v g5
  obtain rfl : w1 = (.long i1) := Option.some.inj ei1
  obtain ⟨i2, ei2⟩ := is_v g6
  obtain rfl : w2 = (.int i2) := Option.some.inj ei2
  obtain ⟨n, o, h1, h2, h3, _, L, rfl, ⟨N, rfl⟩, hq⟩ := (c0 l s _ hw s.heap.size s.heap (Nat.le_refl _) i0 i1 i2) tables_1 p e ha hc hk s m _ below hf ((Spec.applies_iff_loose hf).mp happ).1 ⟨rfl, State.Warmed39.refl s, rfl⟩ trivial
  refine ⟨n, _, h1, h2, h3, hpost _ _ _ _ _ _ ⟨Cond.after_iff.mpr rfl, Cond.after_iff.mpr (eq_i res_at (Term.int_eval (1)) rfl), trivial⟩ ⟨⟨_, rfl⟩, hq.1, hq.2.1, (hq.2.2.sift fun y hy => Or.inr (N y hy)).mono (by decide) (by decide)⟩⟩
theorem main_1_1 : Claimed_1_1 := comes_1 fun _ _ _ _ _ _ h hF => ⟨h.1, hF⟩
theorem main_1_2 : Claimed_1_2 := comes_1 fun _ _ _ _ _ _ h hF => ⟨h.2.1, hF⟩
end Jvm.Pilot.@@N@@
namespace Jvm.Pilot.@@N@@
open Jvm Jvm.ClassFile Sem Op Lib Jvm.Free Jvm.Stand Jvm.Pilot.@@N@@.Jvm.D
/-! MADE BY PROGRAM (witnessworld.py) out of the Statement's table words and the real class files: 20 classes; the members and pool entries that the words name. The judged class is class 1, her method 1. -/
namespace start1
open Jvm.ClassFile
def u (s : String) : CpInfo := .utf8 (stringToUtf16 s)
/-- a pool by its gaps: so many unusable entries, then the entry; so many at the end -/
def gap : Nat → List CpInfo → List CpInfo
  | 0, r => r
  | n + 1, r => .unusable :: gap n r
def poolList (es : List (Nat × CpInfo)) (last : Nat) : List CpInfo := es.foldr (fun e r => gap e.1 (e.2 :: r)) (gap last [])
def pool (es : List (Nat × CpInfo)) (last : Nat) : Array CpInfo := ⟨poolList es last⟩
def fileOf (pool : Array CpInfo) (this : Nat) (attrs : Array Attribute := #[]) (ms : Array MethodInfo := #[]) (fl : Nat := 33) (sup : Nat := 0) (ifs : Array Nat := #[]) (fds : Array FieldInfo := #[]) : ClassFile where
  minorVersion := 0
  majorVersion := 65
  constantPool := pool
  accessFlags := fl
  thisClass := this
  superClass := sup
  interfaces := ifs
  fields := fds
  methods := ms
  attributes := attrs
def plain (name : String) (sup : Option ClassId) : Class where
  name := name
  kind := .ordinary
  loader := none
  accessFlags := 33
  super := sup
  interfaces := #[]
  cf := none
  fields := #[]
  methods := #[]
  instanceTypes := #[]
  staticTypes := #[]
  resolved := #[]
  callSites := []
  init := .initialized
  statics := none
  mirror := none

def pool0 : Array CpInfo := pool [(5, u "<init>"), (0, u "()V"), (1, .class_ 10), (1, u "java/lang/Object")] 113

def k0c0 : Code := { maxStack := 0, maxLocals := 1, code := object_method_1_code, exceptionTable := #[], attributes := #[] }
def k0m0 : Method := { name := "<init>", desc := "()V", sig := { parameters := [], returnType := none }, accessFlags := 1, code := some k0c0 }
/-- java/lang/Object -/
def k0 : Class := { plain "java/lang/Object" none with
  accessFlags := 33
  interfaces := #[]
  cf := some (fileOf pool0 8 #[] #[{ accessFlags := 1, nameIndex := 5, descriptorIndex := 6, attributes := #[] }] 33 0 #[] #[])
  fields := #[]
  methods := #[k0m0]
  instanceTypes := #[]
  staticTypes := #[]
  resolved := Array.replicate 124 none
  statics := none }

def pool1 : Array CpInfo := pool [(2, .class_ 4), (1, u "java/lang/Object"), (0, u "<init>"), (0, u "()V"), (0, .integer 1073741823), (0, .long 4611686018427387904), (1, .long 1073741822), (1, .class_ 13), (0, u "com/example/debit/debit/metering/KwhSums"), (0, .class_ 15), (0, u "com/example/debit/debit/metering/MappedBlocks"), (0, .string 17), (0, u "law"), (0, .methodref 14 19), (0, .nameAndType 5 20), (0, u "(Ljava/lang/String;)V"), (0, .methodref 12 22), (0, .nameAndType 5 23), (0, u "(Lcom/example/debit/debit/metering/MappedBlocks;IJ)V"), (0, .long 1073741824), (1, .long 2), (1, .methodref 12 29), (0, .nameAndType 30 31), (0, u "ints"), (0, u "()I"), (0, .class_ 33), (0, u "com/example/debit/debit/metering/KwhSumsIntsPinLaw"), (2, u "(IJI)Z")] 3

def k1m0 : Method := { name := "<init>", desc := "()V", sig := { parameters := [], returnType := none }, accessFlags := 1, code := none }
def k1c1 : Code := { maxStack := 6, maxLocals := 10, code := code, exceptionTable := #[], attributes := #[] }
def k1m1 : Method := { name := "law", desc := "(IJI)Z", sig := { parameters := [.int, .long, .int], returnType := some .boolean }, accessFlags := 9, code := some k1c1 }
/-- com/example/debit/debit/metering/KwhSumsIntsPinLaw -/
def k1 : Class := { plain "com/example/debit/debit/metering/KwhSumsIntsPinLaw" (some 0) with
  accessFlags := 49
  interfaces := #[]
  cf := some (fileOf pool1 32 #[] #[{ accessFlags := 1, nameIndex := 5, descriptorIndex := 6, attributes := #[] }, { accessFlags := 9, nameIndex := 17, descriptorIndex := 36, attributes := #[] }] 49 2 #[] #[])
  fields := #[]
  methods := #[k1m0, k1m1]
  instanceTypes := #[]
  staticTypes := #[]
  resolved := Array.replicate 40 none
  statics := none }

def pool2 : Array CpInfo := pool [(3, .class_ 4), (0, u "com/example/debit/debit/metering/KwhSums"), (0, .methodref 6 7), (0, .class_ 8), (0, .nameAndType 9 10), (0, u "java/lang/Object"), (0, u "<init>"), (0, u "()V"), (2, .long 4611686018427387903), (10, .fieldref 3 25), (0, .nameAndType 26 27), (0, u "blocks"), (0, u "Lcom/example/debit/debit/metering/MappedBlocks;"), (0, .fieldref 3 29), (0, .nameAndType 30 31), (0, u "size"), (0, u "I"), (0, .long 1073741823), (1, .fieldref 3 35), (0, .nameAndType 36 37), (0, u "wide"), (0, u "Z"), (32, u "INT_SHIFT"), (2, u "INT_SUM"), (0, u "(Lcom/example/debit/debit/metering/MappedBlocks;IJ)V"), (3, u "ints"), (0, u "()I")] 23

def k2c0 : Code := { maxStack := 5, maxLocals := 5, code := prog_36_method_1_code, exceptionTable := #[], attributes := #[] }
def k2m0 : Method := { name := "<init>", desc := "(Lcom/example/debit/debit/metering/MappedBlocks;IJ)V", sig := { parameters := [(.object "com/example/debit/debit/metering/MappedBlocks"), .int, .long], returnType := none }, accessFlags := 0, code := some k2c0 }
def k2c1 : Code := { maxStack := 2, maxLocals := 1, code := prog_36_method_2_code, exceptionTable := #[], attributes := #[] }
def k2m1 : Method := { name := "ints", desc := "()I", sig := { parameters := [], returnType := some .int }, accessFlags := 0, code := some k2c1 }
/-- com/example/debit/debit/metering/KwhSums -/
def k2 : Class := { plain "com/example/debit/debit/metering/KwhSums" (some 0) with
  accessFlags := 48
  interfaces := #[]
  cf := some (fileOf pool2 3 #[] #[{ accessFlags := 0, nameIndex := 9, descriptorIndex := 74, attributes := #[] }, { accessFlags := 0, nameIndex := 78, descriptorIndex := 79, attributes := #[] }] 48 6 #[] #[{ accessFlags := 26, nameIndex := 70, descriptorIndex := 31, attributes := #[] }, { accessFlags := 26, nameIndex := 73, descriptorIndex := 31, attributes := #[] }, { accessFlags := 18, nameIndex := 26, descriptorIndex := 27, attributes := #[] }, { accessFlags := 18, nameIndex := 30, descriptorIndex := 31, attributes := #[] }, { accessFlags := 18, nameIndex := 36, descriptorIndex := 37, attributes := #[] }])
  fields := #[{ name := "INT_SHIFT", type := .int, accessFlags := 26, slot := 0, constantValue := 0 }, { name := "INT_SUM", type := .int, accessFlags := 26, slot := 1, constantValue := 0 }, { name := "blocks", type := (.object "com/example/debit/debit/metering/MappedBlocks"), accessFlags := 18, slot := 0, constantValue := 0 }, { name := "size", type := .int, accessFlags := 18, slot := 1, constantValue := 0 }, { name := "wide", type := .boolean, accessFlags := 18, slot := 2, constantValue := 0 }]
  methods := #[k2m0, k2m1]
  instanceTypes := #[(.object "com/example/debit/debit/metering/MappedBlocks"), .int, .boolean]
  staticTypes := #[.int, .int]
  resolved := Array.replicate 103 none
  statics := none }

def pool3 : Array CpInfo := pool [(1, .class_ 2), (0, u "java/lang/AutoCloseable"), (0, .class_ 4), (0, u "java/lang/Object")] 7

/-- java/lang/AutoCloseable -/
def k3 : Class := { plain "java/lang/AutoCloseable" (some 0) with
  accessFlags := 1537
  interfaces := #[]
  cf := some (fileOf pool3 1 #[] #[] 1537 3 #[] #[])
  fields := #[]
  methods := #[]
  instanceTypes := #[]
  staticTypes := #[]
  resolved := Array.replicate 12 none
  statics := none }

def pool4 : Array CpInfo := pool [(1, .class_ 2), (0, u "java/io/Closeable"), (0, .class_ 4), (0, u "java/lang/Object"), (0, .class_ 6), (0, u "java/lang/AutoCloseable")] 7

/-- java/io/Closeable -/
def k4 : Class := { plain "java/io/Closeable" (some 0) with
  accessFlags := 1537
  interfaces := #[3]
  cf := some (fileOf pool4 1 #[] #[] 1537 3 #[5] #[])
  fields := #[]
  methods := #[]
  instanceTypes := #[]
  staticTypes := #[]
  resolved := Array.replicate 14 none
  statics := none }

def pool5 : Array CpInfo := pool [(1, .class_ 2), (0, u "com/example/debit/debit/metering/MappedBlocks"), (0, .methodref 1 4), (0, .nameAndType 5 6), (0, u "<init>"), (0, u "(Ljava/lang/String;I)V"), (0, .methodref 8 9), (0, .class_ 10), (0, .nameAndType 5 11), (0, u "java/lang/Object"), (0, u "()V"), (0, .class_ 13), (0, u "java/nio/ByteBuffer"), (0, .fieldref 1 15), (0, .nameAndType 16 17), (0, u "segments"), (0, u "[Ljava/nio/ByteBuffer;"), (0, .fieldref 1 19), (0, .nameAndType 20 21), (0, u "free"), (0, u "[I"), (0, .fieldref 1 23), (0, .nameAndType 24 25), (0, u "held"), (0, u "Ljava/lang/String;"), (0, .fieldref 1 27), (0, .nameAndType 28 29), (0, u "segmentShift"), (0, u "I"), (0, .fieldref 1 31), (0, .nameAndType 32 29), (0, u "segmentUnits"), (24, u "next"), (0, u "J"), (39, u "file"), (0, u "Ljava/nio/channels/FileChannel;"), (99, u "(Ljava/lang/String;)V"), (0, .class_ 201), (0, u "java/io/Closeable"), (0, u "UNIT"), (2, u "SEGMENT_SHIFT"), (1, u "ZEROS")] 29

def k5c0 : Code := { maxStack := 3, maxLocals := 2, code := prog_38_method_1_code, exceptionTable := #[], attributes := #[] }
def k5m0 : Method := { name := "<init>", desc := "(Ljava/lang/String;)V", sig := { parameters := [(.object "java/lang/String")], returnType := none }, accessFlags := 0, code := some k5c0 }
def k5c1 : Code := { maxStack := 3, maxLocals := 3, code := prog_38_method_2_code, exceptionTable := #[], attributes := #[] }
def k5m1 : Method := { name := "<init>", desc := "(Ljava/lang/String;I)V", sig := { parameters := [(.object "java/lang/String"), .int], returnType := none }, accessFlags := 0, code := some k5c1 }
/-- com/example/debit/debit/metering/MappedBlocks -/
def k5 : Class := { plain "com/example/debit/debit/metering/MappedBlocks" (some 0) with
  accessFlags := 48
  interfaces := #[4]
  cf := some (fileOf pool5 1 #[] #[{ accessFlags := 0, nameIndex := 5, descriptorIndex := 199, attributes := #[] }, { accessFlags := 0, nameIndex := 5, descriptorIndex := 6, attributes := #[] }] 48 8 #[200] #[{ accessFlags := 24, nameIndex := 202, descriptorIndex := 29, attributes := #[] }, { accessFlags := 26, nameIndex := 205, descriptorIndex := 29, attributes := #[] }, { accessFlags := 26, nameIndex := 207, descriptorIndex := 29, attributes := #[] }, { accessFlags := 18, nameIndex := 24, descriptorIndex := 25, attributes := #[] }, { accessFlags := 18, nameIndex := 28, descriptorIndex := 29, attributes := #[] }, { accessFlags := 18, nameIndex := 32, descriptorIndex := 29, attributes := #[] }, { accessFlags := 2, nameIndex := 98, descriptorIndex := 99, attributes := #[] }, { accessFlags := 2, nameIndex := 16, descriptorIndex := 17, attributes := #[] }, { accessFlags := 2, nameIndex := 57, descriptorIndex := 58, attributes := #[] }, { accessFlags := 2, nameIndex := 20, descriptorIndex := 21, attributes := #[] }])
  fields := #[{ name := "UNIT", type := .int, accessFlags := 24, slot := 0, constantValue := 0 }, { name := "SEGMENT_SHIFT", type := .int, accessFlags := 26, slot := 1, constantValue := 0 }, { name := "ZEROS", type := .int, accessFlags := 26, slot := 2, constantValue := 0 }, { name := "held", type := (.object "java/lang/String"), accessFlags := 18, slot := 0, constantValue := 0 }, { name := "segmentShift", type := .int, accessFlags := 18, slot := 1, constantValue := 0 }, { name := "segmentUnits", type := .int, accessFlags := 18, slot := 2, constantValue := 0 }, { name := "file", type := (.object "java/nio/channels/FileChannel"), accessFlags := 2, slot := 3, constantValue := 0 }, { name := "segments", type := (.array (.object "java/nio/ByteBuffer")), accessFlags := 2, slot := 4, constantValue := 0 }, { name := "next", type := .long, accessFlags := 2, slot := 5, constantValue := 0 }, { name := "free", type := (.array .int), accessFlags := 2, slot := 6, constantValue := 0 }]
  methods := #[k5m0, k5m1]
  instanceTypes := #[(.object "java/lang/String"), .int, .int, (.object "java/nio/channels/FileChannel"), (.array (.object "java/nio/ByteBuffer")), .long, (.array .int)]
  staticTypes := #[.int, .int, .int]
  resolved := Array.replicate 237 none
  statics := none }

def pool6 : Array CpInfo := pool [(1, .class_ 2), (0, u "java/io/Serializable"), (0, .class_ 4), (0, u "java/lang/Object")] 2

/-- java/io/Serializable -/
def k6 : Class := { plain "java/io/Serializable" (some 0) with
  accessFlags := 1537
  interfaces := #[]
  cf := some (fileOf pool6 1 #[] #[] 1537 3 #[] #[])
  fields := #[]
  methods := #[]
  instanceTypes := #[]
  staticTypes := #[]
  resolved := Array.replicate 7 none
  statics := none }

def pool7 : Array CpInfo := pool [(1, .class_ 2), (0, u "java/lang/Comparable"), (0, .class_ 4), (0, u "java/lang/Object")] 7

/-- java/lang/Comparable -/
def k7 : Class := { plain "java/lang/Comparable" (some 0) with
  accessFlags := 1537
  interfaces := #[]
  cf := some (fileOf pool7 1 #[] #[] 1537 3 #[] #[])
  fields := #[]
  methods := #[]
  instanceTypes := #[]
  staticTypes := #[]
  resolved := Array.replicate 12 none
  statics := none }

def pool8 : Array CpInfo := pool [(2, .class_ 4), (1, u "java/lang/CharSequence"), (42, .class_ 48), (0, u "java/lang/CharSequence$1CodePointIterator"), (10, .class_ 60), (0, u "java/lang/CharSequence$1CharIterator"), (5, .class_ 67), (0, u "java/lang/Object")] 63

/-- java/lang/CharSequence -/
def k8 : Class := { plain "java/lang/CharSequence" (some 0) with
  accessFlags := 1537
  interfaces := #[]
  cf := some (fileOf pool8 2 #[.nestMembers #[47, 59]] #[] 1537 66 #[] #[])
  fields := #[]
  methods := #[]
  instanceTypes := #[]
  staticTypes := #[]
  resolved := Array.replicate 131 none
  statics := none }

def pool9 : Array CpInfo := pool [(1, .class_ 2), (0, u "java/lang/constant/Constable"), (0, .class_ 4), (0, u "java/lang/Object")] 6

/-- java/lang/constant/Constable -/
def k9 : Class := { plain "java/lang/constant/Constable" (some 0) with
  accessFlags := 1537
  interfaces := #[]
  cf := some (fileOf pool9 1 #[] #[] 1537 3 #[] #[])
  fields := #[]
  methods := #[]
  instanceTypes := #[]
  staticTypes := #[]
  resolved := Array.replicate 11 none
  statics := none }

def pool10 : Array CpInfo := pool [(1, .class_ 2), (0, u "java/lang/constant/ConstantDesc"), (0, .class_ 4), (0, u "java/lang/Object")] 32

/-- java/lang/constant/ConstantDesc -/
def k10 : Class := { plain "java/lang/constant/ConstantDesc" (some 0) with
  accessFlags := 1537
  interfaces := #[]
  cf := some (fileOf pool10 1 #[] #[] 1537 3 #[] #[])
  fields := #[]
  methods := #[]
  instanceTypes := #[]
  staticTypes := #[]
  resolved := Array.replicate 37 none
  statics := none }

def pool11 : Array CpInfo := pool [(2, .class_ 4), (1, u "java/lang/Object"), (0, u "<init>"), (0, u "()V"), (3, .class_ 12), (1, u "java/lang/String"), (0, u "value"), (0, u "[B"), (2, u "coder"), (0, u "B"), (2, u "hash"), (0, u "I"), (2, u "hashIsZero"), (0, u "Z"), (13, u "COMPACT_STRINGS"), (534, .class_ 576), (0, u "java/lang/CharSequence"), (22, u "CASE_INSENSITIVE_ORDER"), (0, u "Ljava/util/Comparator;"), (500, u "serialPersistentFields"), (0, u "[Ljava/io/ObjectStreamField;"), (0, .class_ 1104), (0, u "java/lang/String$CaseInsensitiveComparator"), (1, .class_ 1107), (0, u "java/io/Serializable"), (0, .class_ 1109), (0, u "java/lang/Comparable"), (0, .class_ 1111), (0, u "java/lang/constant/Constable"), (0, .class_ 1113), (0, u "java/lang/constant/ConstantDesc"), (2, u "serialVersionUID"), (0, u "J"), (3, u "REPL"), (0, u "C"), (2, u "LATIN1"), (1, u "UTF16")] 323

def k11m0 : Method := { name := "<init>", desc := "()V", sig := { parameters := [], returnType := none }, accessFlags := 1, code := none }
/-- java/lang/String -/
def k11 : Class := { plain "java/lang/String" (some 0) with
  accessFlags := 49
  interfaces := #[6, 7, 8, 9, 10]
  cf := some (fileOf pool11 10 #[.nestMembers #[1103]] #[{ accessFlags := 1, nameIndex := 5, descriptorIndex := 6, attributes := #[] }] 49 2 #[1106, 1108, 575, 1110, 1112] #[{ accessFlags := 18, nameIndex := 13, descriptorIndex := 14, attributes := #[] }, { accessFlags := 18, nameIndex := 17, descriptorIndex := 18, attributes := #[] }, { accessFlags := 2, nameIndex := 21, descriptorIndex := 22, attributes := #[] }, { accessFlags := 2, nameIndex := 25, descriptorIndex := 26, attributes := #[] }, { accessFlags := 26, nameIndex := 1116, descriptorIndex := 1117, attributes := #[] }, { accessFlags := 24, nameIndex := 40, descriptorIndex := 26, attributes := #[] }, { accessFlags := 26, nameIndex := 1101, descriptorIndex := 1102, attributes := #[] }, { accessFlags := 26, nameIndex := 1121, descriptorIndex := 1122, attributes := #[] }, { accessFlags := 25, nameIndex := 599, descriptorIndex := 600, attributes := #[] }, { accessFlags := 24, nameIndex := 1125, descriptorIndex := 18, attributes := #[] }, { accessFlags := 24, nameIndex := 1127, descriptorIndex := 18, attributes := #[] }])
  fields := #[{ name := "value", type := (.array .byte), accessFlags := 18, slot := 0, constantValue := 0 }, { name := "coder", type := .byte, accessFlags := 18, slot := 1, constantValue := 0 }, { name := "hash", type := .int, accessFlags := 2, slot := 2, constantValue := 0 }, { name := "hashIsZero", type := .boolean, accessFlags := 2, slot := 3, constantValue := 0 }, { name := "serialVersionUID", type := .long, accessFlags := 26, slot := 0, constantValue := 0 }, { name := "COMPACT_STRINGS", type := .boolean, accessFlags := 24, slot := 1, constantValue := 0 }, { name := "serialPersistentFields", type := (.array (.object "java/io/ObjectStreamField")), accessFlags := 26, slot := 2, constantValue := 0 }, { name := "REPL", type := .char, accessFlags := 26, slot := 3, constantValue := 0 }, { name := "CASE_INSENSITIVE_ORDER", type := (.object "java/util/Comparator"), accessFlags := 25, slot := 4, constantValue := 0 }, { name := "LATIN1", type := .byte, accessFlags := 24, slot := 5, constantValue := 0 }, { name := "UTF16", type := .byte, accessFlags := 24, slot := 6, constantValue := 0 }]
  methods := #[k11m0]
  instanceTypes := #[(.array .byte), .byte, .int, .boolean]
  staticTypes := #[.long, .boolean, (.array (.object "java/io/ObjectStreamField")), .char, (.object "java/util/Comparator"), .byte, .byte]
  resolved := Array.replicate 1451 none
  statics := none }

def pool12 : Array CpInfo := pool [(4, .class_ 6), (1, u "java/lang/Object"), (3, .class_ 12), (1, u "java/nio/Buffer"), (0, u "mark"), (0, u "I"), (2, u "position"), (2, u "address"), (0, u "J"), (2, u "capacity"), (2, u "segment"), (0, u "Ljava/lang/foreign/MemorySegment;"), (6, u "limit"), (32, u "$assertionsDisabled"), (0, u "Z"), (42, u "IOOBE_FORMATTER"), (0, u "Ljava/util/function/BiFunction;"), (34, u "UNSAFE"), (0, u "Ljdk/internal/misc/Unsafe;"), (8, u "SCOPED_MEMORY_ACCESS"), (0, u "Ljdk/internal/misc/ScopedMemoryAccess;"), (0, .class_ 161), (0, u "java/nio/Buffer$1"), (5, .class_ 168), (0, u "java/nio/Buffer$2"), (7, u "SPLITERATOR_CHARACTERISTICS")] 79

/-- java/nio/Buffer -/
def k12 : Class := { plain "java/nio/Buffer" (some 0) with
  accessFlags := 1057
  interfaces := #[]
  cf := some (fileOf pool12 10 #[.nestMembers #[167, 160]] #[] 1057 4 #[] #[{ accessFlags := 24, nameIndex := 148, descriptorIndex := 149, attributes := #[] }, { accessFlags := 24, nameIndex := 158, descriptorIndex := 159, attributes := #[] }, { accessFlags := 24, nameIndex := 176, descriptorIndex := 14, attributes := #[] }, { accessFlags := 2, nameIndex := 13, descriptorIndex := 14, attributes := #[] }, { accessFlags := 2, nameIndex := 17, descriptorIndex := 14, attributes := #[] }, { accessFlags := 2, nameIndex := 35, descriptorIndex := 14, attributes := #[] }, { accessFlags := 18, nameIndex := 24, descriptorIndex := 14, attributes := #[] }, { accessFlags := 0, nameIndex := 20, descriptorIndex := 21, attributes := #[] }, { accessFlags := 16, nameIndex := 27, descriptorIndex := 28, attributes := #[] }, { accessFlags := 26, nameIndex := 112, descriptorIndex := 113, attributes := #[] }, { accessFlags := 4120, nameIndex := 68, descriptorIndex := 69, attributes := #[] }])
  fields := #[{ name := "UNSAFE", type := (.object "jdk/internal/misc/Unsafe"), accessFlags := 24, slot := 0, constantValue := 0 }, { name := "SCOPED_MEMORY_ACCESS", type := (.object "jdk/internal/misc/ScopedMemoryAccess"), accessFlags := 24, slot := 1, constantValue := 0 }, { name := "SPLITERATOR_CHARACTERISTICS", type := .int, accessFlags := 24, slot := 2, constantValue := 0 }, { name := "mark", type := .int, accessFlags := 2, slot := 0, constantValue := 0 }, { name := "position", type := .int, accessFlags := 2, slot := 1, constantValue := 0 }, { name := "limit", type := .int, accessFlags := 2, slot := 2, constantValue := 0 }, { name := "capacity", type := .int, accessFlags := 18, slot := 3, constantValue := 0 }, { name := "address", type := .long, accessFlags := 0, slot := 4, constantValue := 0 }, { name := "segment", type := (.object "java/lang/foreign/MemorySegment"), accessFlags := 16, slot := 5, constantValue := 0 }, { name := "IOOBE_FORMATTER", type := (.object "java/util/function/BiFunction"), accessFlags := 26, slot := 3, constantValue := 0 }, { name := "$assertionsDisabled", type := .boolean, accessFlags := 4120, slot := 4, constantValue := 0 }]
  methods := #[]
  instanceTypes := #[.int, .int, .int, .int, .long, (.object "java/lang/foreign/MemorySegment")]
  staticTypes := #[(.object "jdk/internal/misc/Unsafe"), (.object "jdk/internal/misc/ScopedMemoryAccess"), .int, (.object "java/util/function/BiFunction"), .boolean]
  resolved := Array.replicate 256 none
  statics := none }

def pool13 : Array CpInfo := pool [(2, .class_ 4), (1, u "java/nio/Buffer"), (3, .class_ 10), (1, u "java/nio/ByteBuffer"), (0, u "bigEndian"), (0, u "Z"), (12, u "nativeByteOrder"), (2, u "hb"), (0, u "[B"), (2, u "offset"), (0, u "I"), (69, u "J"), (2, u "ARRAY_BASE_OFFSET"), (33, u "isReadOnly"), (13, u "$assertionsDisabled"), (158, .class_ 314), (0, u "java/lang/Comparable")] 131

/-- java/nio/ByteBuffer -/
def k13 : Class := { plain "java/nio/ByteBuffer" (some 12) with
  accessFlags := 1057
  interfaces := #[7]
  cf := some (fileOf pool13 8 #[] #[] 1057 2 #[313] #[{ accessFlags := 26, nameIndex := 106, descriptorIndex := 103, attributes := #[] }, { accessFlags := 16, nameIndex := 28, descriptorIndex := 29, attributes := #[] }, { accessFlags := 16, nameIndex := 32, descriptorIndex := 33, attributes := #[] }, { accessFlags := 0, nameIndex := 140, descriptorIndex := 12, attributes := #[] }, { accessFlags := 0, nameIndex := 11, descriptorIndex := 12, attributes := #[] }, { accessFlags := 0, nameIndex := 25, descriptorIndex := 12, attributes := #[] }, { accessFlags := 4120, nameIndex := 154, descriptorIndex := 12, attributes := #[] }])
  fields := #[{ name := "ARRAY_BASE_OFFSET", type := .long, accessFlags := 26, slot := 0, constantValue := 0 }, { name := "hb", type := (.array .byte), accessFlags := 16, slot := 6, constantValue := 0 }, { name := "offset", type := .int, accessFlags := 16, slot := 7, constantValue := 0 }, { name := "isReadOnly", type := .boolean, accessFlags := 0, slot := 8, constantValue := 0 }, { name := "bigEndian", type := .boolean, accessFlags := 0, slot := 9, constantValue := 0 }, { name := "nativeByteOrder", type := .boolean, accessFlags := 0, slot := 10, constantValue := 0 }, { name := "$assertionsDisabled", type := .boolean, accessFlags := 4120, slot := 1, constantValue := 0 }]
  methods := #[]
  instanceTypes := #[.int, .int, .int, .int, .long, (.object "java/lang/foreign/MemorySegment"), (.array .byte), .int, .boolean, .boolean, .boolean]
  staticTypes := #[.long, .boolean]
  resolved := Array.replicate 446 none
  statics := none }

def pool14 : Array CpInfo := pool [(1, u "java/lang/Cloneable"), (0, .class_ 1), (0, u "java/lang/Object"), (0, .class_ 3)] 3

/-- java/lang/Cloneable -/
def k14 : Class := { plain "java/lang/Cloneable" (some 0) with
  accessFlags := 1537
  interfaces := #[]
  cf := some (fileOf pool14 2 #[] #[] 1537 4 #[] #[])
  fields := #[]
  methods := #[]
  instanceTypes := #[]
  staticTypes := #[]
  resolved := Array.replicate 8 none
  statics := none }

/-- the primitive byte -/
def k15 : Class := { plain "byte" none with kind := .primitive 'B', accessFlags := 0x411 }
/-- [B -/
def k16 : Class := { plain "[B" (some 0) with kind := .array 15 .byte, interfaces := #[14, 6], accessFlags := 1041 }

/-- the primitive int -/
def k17 : Class := { plain "int" none with kind := .primitive 'I', accessFlags := 0x411 }
/-- [I -/
def k18 : Class := { plain "[I" (some 0) with kind := .array 17 .int, interfaces := #[14, 6], accessFlags := 1041 }

/-- [Ljava/nio/ByteBuffer; -/
def k19 : Class := { plain "[Ljava/nio/ByteBuffer;" (some 0) with kind := .array 13 (.object "java/nio/ByteBuffer"), interfaces := #[14, 6], accessFlags := 1041 }

def heap : Heap := #[]
def classes : Array Class := #[k0, k1, k2, k3, k4, k5, k6, k7, k8, k9, k10, k11, k12, k13, k14, k15, k16, k17, k18, k19]
def interned : List (Array UInt16 × Addr) := []
def slotsUsed : Nat := 0
def theMethod : MethodId := ⟨1, 1⟩
def args0 : Array Value := #[.int 7, .long 5, .int 2]
def aboutOver (below : List Frame) : State where
  vm := { classes := classes, interned := interned.toArray }
  heap := heap
  slotsUsed := slotsUsed
  threads := #[{ frames := .invoking theMethod args0 :: below }]
def below0 : List Frame := [.native { method := ⟨0, 0⟩, args := #[] }]
def about1 : State := aboutOver below0
def p0 : Program := .bare "" "" ""
def e0 : Env := launch0.env 0 0 0
theorem w_frames : about1.frames = Frame.invoking theMethod args0 :: below0 := rfl
set_option maxRecDepth 65536 in
theorem w_args : argsFit about1.vm theMethod args0 = true := by decide +kernel
set_option maxRecDepth 65536 in
theorem w_heap : heapFits about1 = true := by decide +kernel
set_option maxRecDepth 65536 in
theorem w_runnable : about1.curStatus? = some .runnable := by decide +kernel
set_option maxRecDepth 65536 in
theorem w_alone : about1.alone = true := by decide +kernel
set_option maxRecDepth 65536 in
theorem w_named : about1.methodNamed? x = some theMethod := by decide +kernel
set_option maxRecDepth 65536 in
theorem w_hears : about1.hears theMethod below0 = true := by decide +kernel
set_option maxRecDepth 65536 in
theorem w_ripe : about1.ripe theMethod args0 below0 = true := by decide +kernel
theorem w_running : about1.status = .running := rfl
set_option maxRecDepth 65536 in
theorem w_room : about1.hasRoom e0.platform room_1 = true :=
  launch0.hasRoom_least _ room_1 (by decide +kernel) (by decide +kernel) (by decide +kernel) (by decide +kernel) (by decide +kernel) (by decide +kernel)
theorem allAtoms_all (ts : List Jvm.Cond) (a : Array Jvm.Value) (st : Jvm.State) : (allAtoms ts).before a st = ts.all (fun c => c.before a st) := by
  induction ts with
  | nil => rfl
  | cons c t ih =>
    show (Jvm.Cond.and c (allAtoms t)).before a st = _
    rw [Jvm.Cond.before_and, ih, List.all_cons]
def words1 : List Jvm.Cond := Jvm.Cond.code x code maxLocals ret :: tables_1
/-- a 'code' word, met by the world's own term for the bytes: nothing is compared byte by byte -/
theorem code_word {y : MethodName} {bytes : ByteArray} {mx : Nat} {rt : Option FieldType} {a : Array Value} {s : State} {m : MethodId} {meth : Method} {c : Code} (h1 : s.methodNamed? y = some m) (h2 : s.vm.method? m = some meth) (h3 : meth.code = some c) (h4 : c.code = bytes)
    (h5 : (c.maxLocals == mx && c.exceptionTable.isEmpty && decide (c.maxStack ≤ mostOperands) && decide (meth.sig.returnType = rt) && !meth.locks && decide (parseMethodDescriptor y.desc = some meth.sig)) = true) : (Jvm.Cond.code y bytes mx rt).before a s = true := by
  simp only [Bool.and_eq_true, beq_iff_eq, Bool.not_eq_true', decide_eq_true_eq] at h5
  obtain ⟨⟨⟨⟨⟨g1, g2⟩, g3⟩, g4⟩, g5⟩, g6⟩ := h5
  simp [Cond.before, Cond.holds, Cond.value, h1, h2, h3, h4, g1, g2, g3, g4, g5, g6]
def isCode : Jvm.Cond → Bool
  | .code _ _ _ _ => true
  | _ => false
theorem all_split {L : List Jvm.Cond} {P : Jvm.Cond → Bool} (h1 : L.all (fun c => isCode c || P c) = true) (h2 : ∀ c ∈ L.filter isCode, P c = true) : L.all P = true := by
  refine List.all_eq_true.mpr fun c hc => ?_
  have h := List.all_eq_true.mp h1 c hc
  rcases Bool.eq_false_or_eq_true (isCode c) with hi | hi
  · exact h2 c (List.mem_filter.mpr ⟨hc, hi⟩)
  · simpa [hi] using h
set_option maxRecDepth 65536 in
theorem w_c0 : (Jvm.Cond.code x code maxLocals ret).before args0 about1 = true := code_word (m := ⟨1, 1⟩) (meth := k1m1) (c := k1c1) (by decide +kernel) rfl rfl rfl (by decide +kernel)
set_option maxRecDepth 65536 in
theorem w_c1 : (Jvm.Cond.code ({ cls := "com/example/debit/debit/metering/MappedBlocks", name := "<init>", desc := "(Ljava/lang/String;)V" } : Jvm.MethodName) prog_38_method_1_code (2 : Nat) (Option.none : Option Jvm.ClassFile.FieldType)).before args0 about1 = true := code_word (m := ⟨5, 0⟩) (meth := k5m0) (c := k5c0) (by decide +kernel) rfl rfl rfl (by decide +kernel)
set_option maxRecDepth 65536 in
theorem w_c2 : (Jvm.Cond.code ({ cls := "com/example/debit/debit/metering/MappedBlocks", name := "<init>", desc := "(Ljava/lang/String;I)V" } : Jvm.MethodName) prog_38_method_2_code (3 : Nat) (Option.none : Option Jvm.ClassFile.FieldType)).before args0 about1 = true := code_word (m := ⟨5, 1⟩) (meth := k5m1) (c := k5c1) (by decide +kernel) rfl rfl rfl (by decide +kernel)
set_option maxRecDepth 65536 in
theorem w_c3 : (Jvm.Cond.code ({ cls := "java/lang/Object", name := "<init>", desc := "()V" } : Jvm.MethodName) object_method_1_code (1 : Nat) (Option.none : Option Jvm.ClassFile.FieldType)).before args0 about1 = true := code_word (m := ⟨0, 0⟩) (meth := k0m0) (c := k0c0) (by decide +kernel) rfl rfl rfl (by decide +kernel)
set_option maxRecDepth 65536 in
theorem w_c4 : (Jvm.Cond.code ({ cls := "com/example/debit/debit/metering/KwhSums", name := "<init>", desc := "(Lcom/example/debit/debit/metering/MappedBlocks;IJ)V" } : Jvm.MethodName) prog_36_method_1_code (5 : Nat) (Option.none : Option Jvm.ClassFile.FieldType)).before args0 about1 = true := code_word (m := ⟨2, 0⟩) (meth := k2m0) (c := k2c0) (by decide +kernel) rfl rfl rfl (by decide +kernel)
set_option maxRecDepth 65536 in
theorem w_c5 : (Jvm.Cond.code ({ cls := "com/example/debit/debit/metering/KwhSums", name := "ints", desc := "()I" } : Jvm.MethodName) prog_36_method_2_code (1 : Nat) (Option.some Jvm.ClassFile.FieldType.int)).before args0 about1 = true := code_word (m := ⟨2, 1⟩) (meth := k2m1) (c := k2c1) (by decide +kernel) rfl rfl rfl (by decide +kernel)
def codes1 : List Jvm.Cond := [Jvm.Cond.code x code maxLocals ret, Jvm.Cond.code ({ cls := "com/example/debit/debit/metering/MappedBlocks", name := "<init>", desc := "(Ljava/lang/String;)V" } : Jvm.MethodName) prog_38_method_1_code (2 : Nat) (Option.none : Option Jvm.ClassFile.FieldType), Jvm.Cond.code ({ cls := "com/example/debit/debit/metering/MappedBlocks", name := "<init>", desc := "(Ljava/lang/String;I)V" } : Jvm.MethodName) prog_38_method_2_code (3 : Nat) (Option.none : Option Jvm.ClassFile.FieldType), Jvm.Cond.code ({ cls := "java/lang/Object", name := "<init>", desc := "()V" } : Jvm.MethodName) object_method_1_code (1 : Nat) (Option.none : Option Jvm.ClassFile.FieldType), Jvm.Cond.code ({ cls := "com/example/debit/debit/metering/KwhSums", name := "<init>", desc := "(Lcom/example/debit/debit/metering/MappedBlocks;IJ)V" } : Jvm.MethodName) prog_36_method_1_code (5 : Nat) (Option.none : Option Jvm.ClassFile.FieldType), Jvm.Cond.code ({ cls := "com/example/debit/debit/metering/KwhSums", name := "ints", desc := "()I" } : Jvm.MethodName) prog_36_method_2_code (1 : Nat) (Option.some Jvm.ClassFile.FieldType.int)]
set_option maxRecDepth 65536 in
theorem codes_eq : words1.filter isCode = codes1 := rfl
theorem w_codes : ∀ c ∈ words1.filter isCode, c.before args0 about1 = true := by
  rw [codes_eq]
  intro c hc
  simp only [codes1, List.mem_cons, List.not_mem_nil, or_false] at hc
  rcases hc with rfl | rfl | rfl | rfl | rfl | rfl
  · exact w_c0
  · exact w_c1
  · exact w_c2
  · exact w_c3
  · exact w_c4
  · exact w_c5
set_option maxRecDepth 65536 in
theorem w_t1 : (words1.take 24).all (fun c => isCode c || c.before args0 about1) = true := by decide +kernel
set_option maxRecDepth 65536 in
theorem w_t2 : ((words1.drop 24).take 24).all (fun c => isCode c || c.before args0 about1) = true := by decide +kernel
set_option maxRecDepth 65536 in
theorem w_t3 : ((words1.drop 24).drop 24).all (fun c => isCode c || c.before args0 about1) = true := by decide +kernel
theorem w_tables : (allAtoms (Jvm.Cond.code x code maxLocals ret :: tables_1)).before args0 about1 = true := by
  rw [allAtoms_all]
  show words1.all (fun c => c.before args0 about1) = true
  refine all_split ?_ w_codes
  rw [← List.take_append_drop 24 words1, List.all_append, w_t1, ← List.take_append_drop 24 (words1.drop 24), List.all_append, w_t2, w_t3]
  rfl
set_option maxRecDepth 65536 in
theorem w_case : (Jvm.Cond.and given_1 narrow_1).before args0 about1 = true := by decide +kernel
theorem w_applies : (headSpec (Jvm.Cond.code x code maxLocals ret :: tables_1) room_1).applies x e0.platform about1 = true :=
  (Spec.applies_iff w_frames).mpr ⟨w_running, w_runnable, w_alone, w_named, w_hears, w_ripe, w_room, w_tables⟩
theorem atStart : AtStart classFile x code maxLocals ret World_1 tables_1 room_1 Calls_1 rest_1 Pre_1 launch0 p0 e0 about1 theMethod args0 below0 :=
  ⟨lists_1, trivial, launch0.admits_env _ _ _, launch0.least_env, fairChoices_fair.cas, fairChoices_fair.clock, w_frames, w_args, w_heap, w_applies, trivial, trivial, w_case⟩
end start1
theorem witness_1 : WitnessClaimed_1 := ⟨start1.p0, start1.e0, start1.about1, start1.theMethod, start1.args0, start1.below0, start1.atStart⟩
end Jvm.Pilot.@@N@@
