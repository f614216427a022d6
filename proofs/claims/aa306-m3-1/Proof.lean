import JvmDerived
import JvmDerived.Pilot.@@N@@Statement
import JvmDerived.Pilot.@@N@@Code
set_option linter.unusedVariables false
set_option linter.unusedSimpArgs false
namespace Jvm.Own
open Sem ClassFile Op Lib Jvm.Stand Jvm.Free Jvm.LawKit Jvm.RoadKit
/-- what stays put in the walk of one body: program, environment, the state at the call, the method, its arguments, the frames below, its record and code, the state behind the entry, the entry frame -/
abbrev Dyn : Type := Program × Env × State × MethodId × Array Value × List Frame × Method × Code × State × JFrame
def Base (Z : State) (y : MethodName) (bytes : ByteArray) (mx : Nat) (rt : Option FieldType) (D : Dyn) : Prop :=
  match D with
  | (p, _, s, m, _, _, meth, c, _, _) => p.tables.exec = Jvm.exec ∧ c.code = bytes ∧ c.maxLocals = mx ∧ s.vm.findClass y.cls = some m.cls ∧ Z.Warmed39 s.vm ∧ meth.sig.returnType = rt ∧ meth.locks = false ∧ meth.name = y.name
/-- the walk has come to pc with these locals, this stack, this heap; k cells and n slots have been made -/
def Rch (l : Launch) (Z : State) (n0 : Nat) (R : Room) (y : MethodName) (bytes : ByteArray) (mx : Nat) (rt : Option FieldType) (D : Dyn) (h : Heap) (k n pc : Nat) (Ls : Array Slot) (st : List Value) : Prop :=
  Base Z y bytes mx rt D ∧
  match D with
  | (p, e, s, m, args, below, meth, c, s₁, g0) => ∃ (T : State) (locs : List Loc), Stand p l e R s m args below meth c T locs k n ∧ T.heap = h ∧ Fr n0 locs ∧ Steps p.tables e below (s₁.setTop g0) (T.setTop (mkF m pc Ls st))
/-- the body has returned v and left the heap h -/
def Don (l : Launch) (Z : State) (n0 : Nat) (R : Room) (D : Dyn) (h : Heap) (k n : Nat) (v : Option Value) : Prop :=
  match D with
  | (p, e, s, m, args, below, meth, c, s₁, g0) => ∃ (T : State) (locs : List Loc) (fs : List Frame), Stand p l e R s m args below meth c T locs k n ∧ T.heap = h ∧ Fr n0 locs ∧ Steps p.tables e below (s₁.setTop g0) (T.setFrames fs) ∧ (T.setFrames fs).heap = h ∧
      (T.setFrames fs).status = .running ∧ Ended (T.setFrames fs) below (.returned v) ∧ s.WarmedH (T.setFrames fs).vm ∧ s.sameButNew ({ T.setFrames fs with vm := s.vm } : State) locs k n
/-- a callee's contract at the heap h and the arguments as' -/
def Con (l : Launch) (Z : State) (n0 : Nat) (y : MethodName) (bytes : ByteArray) (mx : Nat) (rt : Option FieldType) (rm : Room) (as' : Array Value) (h : Heap) (Q : Option Value → Heap → Prop) : Prop :=
  ∀ ws : List Jvm.Cond, MetFree l y (head1 (Jvm.Cond.code y bytes mx rt :: ws) rm) (fun a U => a = as' ∧ Z.Warmed39 U.vm ∧ U.heap = h) (fun _ _ _ _ _ => True) (fun _ U o U' => ∃ v L, o = .returned v ∧ (Fr n0 L ∧ Q v U'.heap) ∧ FrameEnd U o U' L rm.cells rm.slots)
def ishlW (x z : Int32) : Int32 := x <<< (z &&& 31)
def ishrW (x z : Int32) : Int32 := x >>> (z &&& 31)
def iushrW (x z : Int32) : Int32 := (x.toUInt32 >>> (z &&& 31).toUInt32).toInt32
def lshlW (x : Int64) (z : Int32) : Int64 := x <<< (z &&& 0x3f).toInt64
def lshrW (x : Int64) (z : Int32) : Int64 := x >>> (z &&& 0x3f).toInt64
def lushrW (x : Int64) (z : Int32) : Int64 := (x.toUInt64 >>> (z &&& 0x3f).toInt64.toUInt64).toInt64
def lremW (x z : Int64) : Int64 := x - (x / z) * z
def i2bW (x : Int32) : Int32 := x.toInt8.toInt32
def i2cW (x : Int32) : Int32 := x.toUInt32.toUInt16.toUInt32.toInt32
def i2sW (x : Int32) : Int32 := x.toInt16.toInt32
/-- an element of an int list, by a Java index -/
def ga (L : List Int32) (j : Int32) : Int32 := L.getD j.toNatClampNeg 0
section Kit
variable {l : Launch} {Z : State} {a0 : Array Value} {n0 : Nat} {R : Room} {y : MethodName} {bytes : ByteArray} {mx : Nat} {rt : Option FieldType} {D : Dyn} {h h' : Heap} {k n pc : Nat} {Ls : Array Slot} {st : List Value}
theorem Con.enter {rm : Room} {as' : Array Value} {Q : Option Value → Heap → Prop} (hp : plainFor y = true) (ef : ∀ m, entryFrame m as' mx = mkF m 0 Ls [])
    (f : ∀ D : Dyn, Rch l Z n0 rm y bytes mx rt D h 0 0 0 Ls [] → ∃ v h', Don l Z n0 rm D h' rm.cells rm.slots v ∧ Q v h') : Con l Z n0 y bytes mx rt rm as' h Q := by
  intro ws
  refine MetFree.of_bodySF hp hisR ?_
  intro p e s m args below meth c s₁ Bd hml0 hP hK
  obtain ⟨rfl, hZ, hh⟩ := hP
  have X0 : Stand p l e rm s m args below meth c s₁ [] 0 0 := Stand.of_body Bd
  have e0 : s₁.heap = h := by rw [← hh, Bd.state]; rfl
  obtain ⟨v, h', hD, hQ⟩ := f (p, e, s, m, args, below, meth, c, s₁, mkF m 0 Ls []) ⟨⟨Bd.exec, Bd.bytes, hml0, findClass_of_methodNamed Bd.named, hZ, Bd.returns, Bd.notSynchronized, (name_of_methodNamed Bd.named Bd.method).1⟩, s₁, [], X0, e0, Fr.nil n0, Steps.refl _⟩
  obtain ⟨T, locs, fs, X, eT, N, hs, hh', hrun, hend, hW, hsame⟩ := hD
  exact ⟨_, _, castTop (ef m) hs, hrun, hend, v, locs, rfl, ⟨N, hh'.symm ▸ hQ⟩, ⟨_, rfl⟩, hW, hsame⟩
theorem Rch.go (r : Rch l Z n0 R y bytes mx rt D h k n pc Ls st) {pc' : Nat} {Ls' : Array Slot} {st' : List Value}
    (f : ∀ {p : Program} {e : Env} {s : State} {m : MethodId} {args : Array Value} {below : List Frame} {meth : Method} {c : Code} {T : State} {locs : List Loc}, Stand p l e R s m args below meth c T locs k n → p.tables.exec = Jvm.exec → c.code = bytes → Z.Warmed39 s.vm → s.vm.findClass y.cls = some m.cls → T.heap = h →
      ∀ target, Steps p.tables e below (T.setTop (mkF m pc' Ls' st')) target → Steps p.tables e below (T.setTop (mkF m pc Ls st)) target) : Rch l Z n0 R y bytes mx rt D h k n pc' Ls' st' := by
  obtain ⟨p, e, s, m, args, below, meth, c, s₁, g0⟩ := D
  obtain ⟨hB, T, locs, X, eT, N, hs⟩ := r
  exact ⟨hB, T, locs, X, eT, N, hs.trans (f X hB.1 hB.2.1 hB.2.2.2.2.1 hB.2.2.2.1 eT _ (Steps.refl _))⟩
theorem Rch.mv (r : Rch l Z n0 R y bytes mx rt D h k n pc Ls st) {k' n' pc' : Nat} {Ls' : Array Slot} {st' : Heap → List Value} {P : Heap → Prop}
    (f : ∀ {p : Program} {e : Env} {s : State} {m : MethodId} {args : Array Value} {below : List Frame} {meth : Method} {c : Code} {T : State} {locs : List Loc}, Stand p l e R s m args below meth c T locs k n → p.tables.exec = Jvm.exec → c.code = bytes → c.maxLocals = mx → meth.name = y.name → Z.Warmed39 s.vm → s.vm.findClass y.cls = some m.cls → T.heap = h → Fr n0 locs →
      ∃ (T' : State) (h' : Heap) (locs' : List Loc), Stand p l e R s m args below meth c T' locs' k' n' ∧ T'.heap = h' ∧ P h' ∧ Fr n0 locs' ∧ Steps p.tables e below (T.setTop (mkF m pc Ls st)) (T'.setTop (mkF m pc' Ls' (st' h')))) : ∃ h', P h' ∧ Rch l Z n0 R y bytes mx rt D h' k' n' pc' Ls' (st' h') := by
  obtain ⟨p, e, s, m, args, below, meth, c, s₁, g0⟩ := D
  obtain ⟨hB, T, locs, X, eT, N, hs⟩ := r
  obtain ⟨T', h', locs', X', eT', hP, N', hs'⟩ := f X hB.1 hB.2.1 hB.2.2.1 hB.2.2.2.2.2.2.2 hB.2.2.2.2.1 hB.2.2.2.1 eT N
  exact ⟨h', hP, hB, T', locs', X', eT', N', hs.trans hs'⟩
theorem Rch.more (r : Rch l Z n0 R y bytes mx rt D h k n pc Ls st) {k' n' : Nat} (hk : k ≤ k') (hn : n ≤ n') : Rch l Z n0 R y bytes mx rt D h k' n' pc Ls st := by
  obtain ⟨p, e, s, m, args, below, meth, c, s₁, g0⟩ := D
  obtain ⟨hB, T, locs, X, eT, N, hs⟩ := r
  exact ⟨hB, T, locs, X.more hk hn, eT, N, hs⟩
theorem aload {i : Nat} {v : Value} (r : Rch l Z n0 R y bytes mx rt D h k n pc Ls st) (hd : decode bytes pc = .ok (.aload i, 2)) (hl : Ls[i]? = some (.val v)) (hv : v.isRef = true) : Rch l Z n0 R y bytes mx rt D h k n (pc + 2) Ls (v :: st) := r.go fun X hx b _ _ _ t q => XS.aload X.here hx rfl (hb b hd) hl hv q
theorem aloadN {i : Fin 4} {v : Value} (r : Rch l Z n0 R y bytes mx rt D h k n pc Ls st) (hd : decode bytes pc = .ok (.aload_n i, 1)) (hl : Ls[i.val]? = some (.val v)) (hv : v.isRef = true) : Rch l Z n0 R y bytes mx rt D h k n (pc + 1) Ls (v :: st) := r.go fun X hx b _ _ _ t q => XS.aloadN X.here hx rfl (hb b hd) hl hv q
theorem iload {i : Nat} {v : Int32} (r : Rch l Z n0 R y bytes mx rt D h k n pc Ls st) (hd : decode bytes pc = .ok (.iload i, 2)) (hl : Ls[i]? = some (.val (.int v))) : Rch l Z n0 R y bytes mx rt D h k n (pc + 2) Ls (.int v :: st) := r.go fun X hx b _ _ _ t q => XS.iload X.here hx rfl (hb b hd) hl q
theorem iloadN {i : Fin 4} {v : Int32} (r : Rch l Z n0 R y bytes mx rt D h k n pc Ls st) (hd : decode bytes pc = .ok (.iload_n i, 1)) (hl : Ls[i.val]? = some (.val (.int v))) : Rch l Z n0 R y bytes mx rt D h k n (pc + 1) Ls (.int v :: st) := r.go fun X hx b _ _ _ t q => XS.iloadN X.here hx rfl (hb b hd) hl q
theorem lload {i : Nat} {v : Int64} (r : Rch l Z n0 R y bytes mx rt D h k n pc Ls st) (hd : decode bytes pc = .ok (.lload i, 2)) (hl : Ls[i]? = some (.val (.long v))) : Rch l Z n0 R y bytes mx rt D h k n (pc + 2) Ls (.long v :: st) := r.go fun X hx b _ _ _ t q => XS.lload X.here hx rfl (hb b hd) hl q
theorem lloadN {i : Fin 4} {v : Int64} (r : Rch l Z n0 R y bytes mx rt D h k n pc Ls st) (hd : decode bytes pc = .ok (.lload_n i, 1)) (hl : Ls[i.val]? = some (.val (.long v))) : Rch l Z n0 R y bytes mx rt D h k n (pc + 1) Ls (.long v :: st) := r.go fun X hx b _ _ _ t q => XS.lloadN X.here hx rfl (hb b hd) hl q
theorem istore {x : Int32} {i : Nat} {L' : Array Slot} (r : Rch l Z n0 R y bytes mx rt D h k n pc Ls (.int x :: st)) (hd : decode bytes pc = .ok (.istore i, 2)) (hl : storeLocals Ls i (.int x) = some L') : Rch l Z n0 R y bytes mx rt D h k n (pc + 2) L' st := r.go fun X hx b _ _ _ t q => XS.istore X.here hx rfl (hb b hd) rfl hl q
theorem istoreN {x : Int32} {i : Fin 4} {L' : Array Slot} (r : Rch l Z n0 R y bytes mx rt D h k n pc Ls (.int x :: st)) (hd : decode bytes pc = .ok (.istore_n i, 1)) (hl : storeLocals Ls i.val (.int x) = some L') : Rch l Z n0 R y bytes mx rt D h k n (pc + 1) L' st := r.go fun X hx b _ _ _ t q => XS.istoreN X.here hx rfl (hb b hd) rfl hl q
theorem lstore {x : Int64} {i : Nat} {L' : Array Slot} (r : Rch l Z n0 R y bytes mx rt D h k n pc Ls (.long x :: st)) (hd : decode bytes pc = .ok (.lstore i, 2)) (hl : storeLocals Ls i (.long x) = some L') : Rch l Z n0 R y bytes mx rt D h k n (pc + 2) L' st := r.go fun X hx b _ _ _ t q => XS.lstore X.here hx rfl (hb b hd) rfl hl q
theorem lstoreN {x : Int64} {i : Fin 4} {L' : Array Slot} (r : Rch l Z n0 R y bytes mx rt D h k n pc Ls (.long x :: st)) (hd : decode bytes pc = .ok (.lstore_n i, 1)) (hl : storeLocals Ls i.val (.long x) = some L') : Rch l Z n0 R y bytes mx rt D h k n (pc + 1) L' st := r.go fun X hx b _ _ _ t q => XS.lstoreN X.here hx rfl (hb b hd) rfl hl q
theorem astore {x : Value} {i : Nat} {L' : Array Slot} (r : Rch l Z n0 R y bytes mx rt D h k n pc Ls (x :: st)) (hd : decode bytes pc = .ok (.astore i, 2)) (hv : x.isRef = true) (hl : storeLocals Ls i x = some L') : Rch l Z n0 R y bytes mx rt D h k n (pc + 2) L' st := r.go fun X hx b _ _ _ t q => XS.astore X.here hx rfl (hb b hd) rfl hv hl q
theorem astoreN {x : Value} {i : Fin 4} {L' : Array Slot} (r : Rch l Z n0 R y bytes mx rt D h k n pc Ls (x :: st)) (hd : decode bytes pc = .ok (.astore_n i, 1)) (hv : x.isRef = true) (hl : storeLocals Ls i.val x = some L') : Rch l Z n0 R y bytes mx rt D h k n (pc + 1) L' st := r.go fun X hx b _ _ _ t q => XS.astoreN X.here hx rfl (hb b hd) rfl hv hl q
theorem iconst {i : Int} {v : Int32} (r : Rch l Z n0 R y bytes mx rt D h k n pc Ls st) (hd : decode bytes pc = .ok (.iconst i, 1)) (hv : Int32.ofInt i = v) : Rch l Z n0 R y bytes mx rt D h k n (pc + 1) Ls (.int v :: st) := by subst hv; exact r.go fun X hx b _ _ _ t q => XS.iconst X.here hx rfl (hb b hd) q
theorem bipush {i : Int} {v : Int32} (r : Rch l Z n0 R y bytes mx rt D h k n pc Ls st) (hd : decode bytes pc = .ok (.bipush i, 2)) (hv : (Int8.ofInt i).toInt32 = v) : Rch l Z n0 R y bytes mx rt D h k n (pc + 2) Ls (.int v :: st) := by subst hv; exact r.go fun X hx b _ _ _ t q => XS.bipush X.here hx rfl (hb b hd) q
theorem sipush {i : Int} {v : Int32} (r : Rch l Z n0 R y bytes mx rt D h k n pc Ls st) (hd : decode bytes pc = .ok (.sipush i, 3)) (hv : (Int16.ofInt i).toInt32 = v) : Rch l Z n0 R y bytes mx rt D h k n (pc + 3) Ls (.int v :: st) := by subst hv; exact r.go fun X hx b _ _ _ t q => XS.sipush X.here hx rfl (hb b hd) q
theorem lconst {i : Fin 2} {v : Int64} (r : Rch l Z n0 R y bytes mx rt D h k n pc Ls st) (hd : decode bytes pc = .ok (.lconst i, 1)) (hv : Int64.ofNat i = v) : Rch l Z n0 R y bytes mx rt D h k n (pc + 1) Ls (.long v :: st) := by subst hv; exact r.go fun X hx b _ _ _ t q => XT.lconst X.here hx rfl (hb b hd) q
theorem aconstNull (r : Rch l Z n0 R y bytes mx rt D h k n pc Ls st) (hd : decode bytes pc = .ok (.aconst_null, 1)) : Rch l Z n0 R y bytes mx rt D h k n (pc + 1) Ls (.null :: st) := r.go fun X hx b _ _ _ t q => XS.aconstNull X.here hx rfl (hb b hd) q
theorem dup {x : Value} (r : Rch l Z n0 R y bytes mx rt D h k n pc Ls (x :: st)) (hd : decode bytes pc = .ok (.dup, 1)) (hc : x.category = 1) : Rch l Z n0 R y bytes mx rt D h k n (pc + 1) Ls (x :: x :: st) := r.go fun X hx b _ _ _ t q => XS.dup X.here hx rfl (hb b hd) rfl hc q
theorem pop {x : Value} (r : Rch l Z n0 R y bytes mx rt D h k n pc Ls (x :: st)) (hd : decode bytes pc = .ok (.pop, 1)) (hc : x.category = 1) : Rch l Z n0 R y bytes mx rt D h k n (pc + 1) Ls st := r.go fun X hx b _ _ _ t q => XS.pop X.here hx rfl (hb b hd) rfl hc q
theorem dupX1 {x z : Value} (r : Rch l Z n0 R y bytes mx rt D h k n pc Ls (x :: z :: st)) (hd : decode bytes pc = .ok (.dup_x1, 1)) (hc : x.category = 1) (hc2 : z.category = 1) : Rch l Z n0 R y bytes mx rt D h k n (pc + 1) Ls (x :: z :: x :: st) := r.go fun X hx b _ _ _ t q => XS.dupX1 X.here hx rfl (hb b hd) rfl hc hc2 q
theorem dup2 {x z : Value} (r : Rch l Z n0 R y bytes mx rt D h k n pc Ls (x :: z :: st)) (hd : decode bytes pc = .ok (.dup2, 1)) (hc : x.category = 1) (hc2 : z.category = 1) : Rch l Z n0 R y bytes mx rt D h k n (pc + 1) Ls (x :: z :: x :: z :: st) := r.go fun X hx b _ _ _ t q => XT.dup2 X.here hx rfl (hb b hd) rfl hc hc2 q
theorem dup2L {x : Int64} (r : Rch l Z n0 R y bytes mx rt D h k n pc Ls (.long x :: st)) (hd : decode bytes pc = .ok (.dup2, 1)) : Rch l Z n0 R y bytes mx rt D h k n (pc + 1) Ls (.long x :: .long x :: st) := r.go fun X hx b _ _ _ t q => XT.dup2L X.here hx rfl (hb b hd) rfl q
theorem iadd {x z : Int32} (r : Rch l Z n0 R y bytes mx rt D h k n pc Ls (.int z :: .int x :: st)) (hd : decode bytes pc = .ok (.iadd, 1)) : Rch l Z n0 R y bytes mx rt D h k n (pc + 1) Ls (.int (x + z) :: st) := r.go fun X hx b _ _ _ t q => XS.iadd X.here hx rfl (hb b hd) rfl q
theorem isub {x z : Int32} (r : Rch l Z n0 R y bytes mx rt D h k n pc Ls (.int z :: .int x :: st)) (hd : decode bytes pc = .ok (.isub, 1)) : Rch l Z n0 R y bytes mx rt D h k n (pc + 1) Ls (.int (x - z) :: st) := r.go fun X hx b _ _ _ t q => XS.isub X.here hx rfl (hb b hd) rfl q
theorem imul {x z : Int32} (r : Rch l Z n0 R y bytes mx rt D h k n pc Ls (.int z :: .int x :: st)) (hd : decode bytes pc = .ok (.imul, 1)) : Rch l Z n0 R y bytes mx rt D h k n (pc + 1) Ls (.int (x * z) :: st) := r.go fun X hx b _ _ _ t q => XS.imul X.here hx rfl (hb b hd) rfl q
theorem iand {x z : Int32} (r : Rch l Z n0 R y bytes mx rt D h k n pc Ls (.int z :: .int x :: st)) (hd : decode bytes pc = .ok (.iand, 1)) : Rch l Z n0 R y bytes mx rt D h k n (pc + 1) Ls (.int (x &&& z) :: st) := r.go fun X hx b _ _ _ t q => XS.iand X.here hx rfl (hb b hd) rfl q
theorem ior {x z : Int32} (r : Rch l Z n0 R y bytes mx rt D h k n pc Ls (.int z :: .int x :: st)) (hd : decode bytes pc = .ok (.ior, 1)) : Rch l Z n0 R y bytes mx rt D h k n (pc + 1) Ls (.int (x ||| z) :: st) := r.go fun X hx b _ _ _ t q => XS.ior X.here hx rfl (hb b hd) rfl q
theorem ixor {x z : Int32} (r : Rch l Z n0 R y bytes mx rt D h k n pc Ls (.int z :: .int x :: st)) (hd : decode bytes pc = .ok (.ixor, 1)) : Rch l Z n0 R y bytes mx rt D h k n (pc + 1) Ls (.int (x ^^^ z) :: st) := r.go fun X hx b _ _ _ t q => XS.ixor X.here hx rfl (hb b hd) rfl q
theorem ishl {x z : Int32} (r : Rch l Z n0 R y bytes mx rt D h k n pc Ls (.int z :: .int x :: st)) (hd : decode bytes pc = .ok (.ishl, 1)) : Rch l Z n0 R y bytes mx rt D h k n (pc + 1) Ls (.int (ishlW x z) :: st) := r.go fun X hx b _ _ _ t q => XS.ishl X.here hx rfl (hb b hd) rfl q
theorem ishr {x z : Int32} (r : Rch l Z n0 R y bytes mx rt D h k n pc Ls (.int z :: .int x :: st)) (hd : decode bytes pc = .ok (.ishr, 1)) : Rch l Z n0 R y bytes mx rt D h k n (pc + 1) Ls (.int (ishrW x z) :: st) := r.go fun X hx b _ _ _ t q => XS.ishr X.here hx rfl (hb b hd) rfl q
theorem iushr {x z : Int32} (r : Rch l Z n0 R y bytes mx rt D h k n pc Ls (.int z :: .int x :: st)) (hd : decode bytes pc = .ok (.iushr, 1)) : Rch l Z n0 R y bytes mx rt D h k n (pc + 1) Ls (.int (iushrW x z) :: st) := r.go fun X hx b _ _ _ t q => XS.iushr X.here hx rfl (hb b hd) rfl q
theorem idiv {x z : Int32} (r : Rch l Z n0 R y bytes mx rt D h k n pc Ls (.int z :: .int x :: st)) (hd : decode bytes pc = .ok (.idiv, 1)) (hz : z ≠ 0) : Rch l Z n0 R y bytes mx rt D h k n (pc + 1) Ls (.int (x / z) :: st) := r.go fun X hx b _ _ _ t q => XS.idiv X.here hx rfl (hb b hd) rfl hz q
theorem irem {x z : Int32} (r : Rch l Z n0 R y bytes mx rt D h k n pc Ls (.int z :: .int x :: st)) (hd : decode bytes pc = .ok (.irem, 1)) (hz : z ≠ 0) : Rch l Z n0 R y bytes mx rt D h k n (pc + 1) Ls (.int (x % z) :: st) := r.go fun X hx b _ _ _ t q => iremM X hx rfl (hb b hd) rfl hz q
theorem ineg {x : Int32} (r : Rch l Z n0 R y bytes mx rt D h k n pc Ls (.int x :: st)) (hd : decode bytes pc = .ok (.ineg, 1)) : Rch l Z n0 R y bytes mx rt D h k n (pc + 1) Ls (.int (-x) :: st) := r.go fun X hx b _ _ _ t q => XS.ineg X.here hx rfl (hb b hd) rfl q
theorem ladd {x z : Int64} (r : Rch l Z n0 R y bytes mx rt D h k n pc Ls (.long z :: .long x :: st)) (hd : decode bytes pc = .ok (.ladd, 1)) : Rch l Z n0 R y bytes mx rt D h k n (pc + 1) Ls (.long (x + z) :: st) := r.go fun X hx b _ _ _ t q => XS.ladd X.here hx rfl (hb b hd) rfl q
theorem lsub {x z : Int64} (r : Rch l Z n0 R y bytes mx rt D h k n pc Ls (.long z :: .long x :: st)) (hd : decode bytes pc = .ok (.lsub, 1)) : Rch l Z n0 R y bytes mx rt D h k n (pc + 1) Ls (.long (x - z) :: st) := r.go fun X hx b _ _ _ t q => XS.lsub X.here hx rfl (hb b hd) rfl q
theorem lmul {x z : Int64} (r : Rch l Z n0 R y bytes mx rt D h k n pc Ls (.long z :: .long x :: st)) (hd : decode bytes pc = .ok (.lmul, 1)) : Rch l Z n0 R y bytes mx rt D h k n (pc + 1) Ls (.long (x * z) :: st) := r.go fun X hx b _ _ _ t q => XS.lmul X.here hx rfl (hb b hd) rfl q
theorem land {x z : Int64} (r : Rch l Z n0 R y bytes mx rt D h k n pc Ls (.long z :: .long x :: st)) (hd : decode bytes pc = .ok (.land, 1)) : Rch l Z n0 R y bytes mx rt D h k n (pc + 1) Ls (.long (x &&& z) :: st) := r.go fun X hx b _ _ _ t q => XS.land X.here hx rfl (hb b hd) rfl q
theorem lor {x z : Int64} (r : Rch l Z n0 R y bytes mx rt D h k n pc Ls (.long z :: .long x :: st)) (hd : decode bytes pc = .ok (.lor, 1)) : Rch l Z n0 R y bytes mx rt D h k n (pc + 1) Ls (.long (x ||| z) :: st) := r.go fun X hx b _ _ _ t q => XS.lor X.here hx rfl (hb b hd) rfl q
theorem lxor {x z : Int64} (r : Rch l Z n0 R y bytes mx rt D h k n pc Ls (.long z :: .long x :: st)) (hd : decode bytes pc = .ok (.lxor, 1)) : Rch l Z n0 R y bytes mx rt D h k n (pc + 1) Ls (.long (x ^^^ z) :: st) := r.go fun X hx b _ _ _ t q => XS.lxor X.here hx rfl (hb b hd) rfl q
theorem ldiv {x z : Int64} (r : Rch l Z n0 R y bytes mx rt D h k n pc Ls (.long z :: .long x :: st)) (hd : decode bytes pc = .ok (.ldiv, 1)) (hz : z ≠ 0) : Rch l Z n0 R y bytes mx rt D h k n (pc + 1) Ls (.long (x / z) :: st) := r.go fun X hx b _ _ _ t q => XS.ldiv X.here hx rfl (hb b hd) rfl hz q
theorem lrem {x z : Int64} (r : Rch l Z n0 R y bytes mx rt D h k n pc Ls (.long z :: .long x :: st)) (hd : decode bytes pc = .ok (.lrem, 1)) (hz : z ≠ 0) : Rch l Z n0 R y bytes mx rt D h k n (pc + 1) Ls (.long (lremW x z) :: st) := r.go fun X hx b _ _ _ t q => XS.lrem X.here hx rfl (hb b hd) rfl hz q
theorem lcmp {x z : Int64} (r : Rch l Z n0 R y bytes mx rt D h k n pc Ls (.long z :: .long x :: st)) (hd : decode bytes pc = .ok (.lcmp, 1)) : Rch l Z n0 R y bytes mx rt D h k n (pc + 1) Ls (.int (XT.cmpL x z) :: st) := r.go fun X hx b _ _ _ t q => XT.lcmp X.here hx rfl (hb b hd) rfl q
theorem lneg {x : Int64} (r : Rch l Z n0 R y bytes mx rt D h k n pc Ls (.long x :: st)) (hd : decode bytes pc = .ok (.lneg, 1)) : Rch l Z n0 R y bytes mx rt D h k n (pc + 1) Ls (.long (-x) :: st) := r.go fun X hx b _ _ _ t q => XS.lneg X.here hx rfl (hb b hd) rfl q
theorem lshl {x : Int64} {z : Int32} (r : Rch l Z n0 R y bytes mx rt D h k n pc Ls (.int z :: .long x :: st)) (hd : decode bytes pc = .ok (.lshl, 1)) : Rch l Z n0 R y bytes mx rt D h k n (pc + 1) Ls (.long (lshlW x z) :: st) := r.go fun X hx b _ _ _ t q => XS.lshl X.here hx rfl (hb b hd) rfl q
theorem lshr {x : Int64} {z : Int32} (r : Rch l Z n0 R y bytes mx rt D h k n pc Ls (.int z :: .long x :: st)) (hd : decode bytes pc = .ok (.lshr, 1)) : Rch l Z n0 R y bytes mx rt D h k n (pc + 1) Ls (.long (lshrW x z) :: st) := r.go fun X hx b _ _ _ t q => XS.lshr X.here hx rfl (hb b hd) rfl q
theorem lushr {x : Int64} {z : Int32} (r : Rch l Z n0 R y bytes mx rt D h k n pc Ls (.int z :: .long x :: st)) (hd : decode bytes pc = .ok (.lushr, 1)) : Rch l Z n0 R y bytes mx rt D h k n (pc + 1) Ls (.long (lushrW x z) :: st) := r.go fun X hx b _ _ _ t q => XS.lushr X.here hx rfl (hb b hd) rfl q
theorem i2l {x : Int32} (r : Rch l Z n0 R y bytes mx rt D h k n pc Ls (.int x :: st)) (hd : decode bytes pc = .ok (.i2l, 1)) : Rch l Z n0 R y bytes mx rt D h k n (pc + 1) Ls (.long x.toInt64 :: st) := r.go fun X hx b _ _ _ t q => XS.i2l X.here hx rfl (hb b hd) rfl q
theorem l2i {x : Int64} (r : Rch l Z n0 R y bytes mx rt D h k n pc Ls (.long x :: st)) (hd : decode bytes pc = .ok (.l2i, 1)) : Rch l Z n0 R y bytes mx rt D h k n (pc + 1) Ls (.int x.toInt32 :: st) := r.go fun X hx b _ _ _ t q => XS.l2i X.here hx rfl (hb b hd) rfl q
theorem i2b {x : Int32} (r : Rch l Z n0 R y bytes mx rt D h k n pc Ls (.int x :: st)) (hd : decode bytes pc = .ok (.i2b, 1)) : Rch l Z n0 R y bytes mx rt D h k n (pc + 1) Ls (.int (i2bW x) :: st) := r.go fun X hx b _ _ _ t q => XS.i2b X.here hx rfl (hb b hd) rfl q
theorem i2c {x : Int32} (r : Rch l Z n0 R y bytes mx rt D h k n pc Ls (.int x :: st)) (hd : decode bytes pc = .ok (.i2c, 1)) : Rch l Z n0 R y bytes mx rt D h k n (pc + 1) Ls (.int (i2cW x) :: st) := r.go fun X hx b _ _ _ t q => XS.i2c X.here hx rfl (hb b hd) rfl q
theorem i2s {x : Int32} (r : Rch l Z n0 R y bytes mx rt D h k n pc Ls (.int x :: st)) (hd : decode bytes pc = .ok (.i2s, 1)) : Rch l Z n0 R y bytes mx rt D h k n (pc + 1) Ls (.int (i2sW x) :: st) := r.go fun X hx b _ _ _ t q => XS.i2s X.here hx rfl (hb b hd) rfl q
theorem iinc {i : Nat} {cst : Int} {x v : Int32} {L' : Array Slot} (r : Rch l Z n0 R y bytes mx rt D h k n pc Ls st) (hd : decode bytes pc = .ok (.iinc i cst, 3)) (hl : Ls[i]? = some (.val (.int x))) (hv : Int32.ofInt cst = v) (hl' : storeLocals Ls i (.int (x + v)) = some L') : Rch l Z n0 R y bytes mx rt D h k n (pc + 3) L' st := by subst hv; exact r.go fun X hx b _ _ _ t q => XS.iinc X.here hx rfl (hb b hd) hl hl' q
theorem istoreS {x : Int32} {i : Nat} {o : Slot} (r : Rch l Z n0 R y bytes mx rt D h k n pc Ls (.int x :: st)) (hd : decode bytes pc = .ok (.istore i, 2)) (hold : Ls[i]? = some o) (ho : o = .unset ∨ ∃ w, o = .val w ∧ w.category = 1) : Rch l Z n0 R y bytes mx rt D h k n (pc + 2) (Ls.setIfInBounds i (.val (.int x))) st := r.go fun X hx b _ _ _ t q => XS.istoreS X.here hx rfl (hb b hd) rfl hold ho q
theorem istoreNS {x : Int32} {i : Fin 4} {o : Slot} (r : Rch l Z n0 R y bytes mx rt D h k n pc Ls (.int x :: st)) (hd : decode bytes pc = .ok (.istore_n i, 1)) (hold : Ls[i.val]? = some o) (ho : o = .unset ∨ ∃ w, o = .val w ∧ w.category = 1) : Rch l Z n0 R y bytes mx rt D h k n (pc + 1) (Ls.setIfInBounds i.val (.val (.int x))) st := r.go fun X hx b _ _ _ t q => XS.istoreNS X.here hx rfl (hb b hd) rfl hold ho q
theorem astoreS {x : Value} {i : Nat} {o : Slot} (r : Rch l Z n0 R y bytes mx rt D h k n pc Ls (x :: st)) (hd : decode bytes pc = .ok (.astore i, 2)) (hv : x.isRef = true) (hold : Ls[i]? = some o) (ho : o = .unset ∨ ∃ w, o = .val w ∧ w.category = 1) : Rch l Z n0 R y bytes mx rt D h k n (pc + 2) (Ls.setIfInBounds i (.val x)) st := r.go fun X hx b _ _ _ t q => XS.astoreS X.here hx rfl (hb b hd) rfl hv (XT.cat1 hv) hold ho q
theorem astoreNS {x : Value} {i : Fin 4} {o : Slot} (r : Rch l Z n0 R y bytes mx rt D h k n pc Ls (x :: st)) (hd : decode bytes pc = .ok (.astore_n i, 1)) (hv : x.isRef = true) (hold : Ls[i.val]? = some o) (ho : o = .unset ∨ ∃ w, o = .val w ∧ w.category = 1) : Rch l Z n0 R y bytes mx rt D h k n (pc + 1) (Ls.setIfInBounds i.val (.val x)) st := r.go fun X hx b _ _ _ t q => XT.astoreNS X.here hx rfl (hb b hd) rfl hv (XT.cat1 hv) hold ho q
theorem dupX2step {tb : Tables} [Ours tb] {e : Env} {below : List Frame} {T target : State} {m : MethodId} {c : Code} {g : JFrame} (h : At T m c below) (hx : tb.exec = Jvm.exec) (hg : g.method = m) {x u z : Value} {rest : List Value} (hd : decode c.code g.pc = .ok (.dup_x2, 1)) (hs : g.stack = x :: u :: z :: rest) (hc : x.category = 1) (hc2 : u.category = 1) (hc3 : z.category = 1)
    (hr : Steps tb e below (T.setTop { g with pc := g.pc + 1, stack := x :: u :: z :: x :: rest }) target) : Steps tb e below (T.setTop g) target := by
  subst hg
  jvm_step h [h.top, hx, hd, hs, hc, hc2, hc3]
  exact hr
theorem dupX2 {x u z : Value} (r : Rch l Z n0 R y bytes mx rt D h k n pc Ls (x :: u :: z :: st)) (hd : decode bytes pc = .ok (.dup_x2, 1)) (hc : x.category = 1) (hc2 : u.category = 1) (hc3 : z.category = 1) : Rch l Z n0 R y bytes mx rt D h k n (pc + 1) Ls (x :: u :: z :: x :: st) := r.go fun X hx b _ _ _ t q => dupX2step X.here hx rfl (hb b hd) rfl hc hc2 hc3 q
/-! branches -/
theorem goto {o : Int} {pc' : Nat} (r : Rch l Z n0 R y bytes mx rt D h k n pc Ls st) (hd : decode bytes pc = .ok (.goto o, 3)) (ho : 0 ≤ (pc : Int) + o) (hp : ((pc : Int) + o).toNat = pc') : Rch l Z n0 R y bytes mx rt D h k n pc' Ls st := r.go fun X hx b _ _ _ t q => XS.goto X.here hx rfl (pc0 := pc) rfl (hb b hd) ho hp q
theorem ifYes {cd : ClassFile.Cond} {x : Int32} {o : Int} {pc' : Nat} (r : Rch l Z n0 R y bytes mx rt D h k n pc Ls (.int x :: st)) (hd : decode bytes pc = .ok (.ifCond cd o, 3)) (hc : ifCond.holds cd x = true) (ho : 0 ≤ (pc : Int) + o) (hp : ((pc : Int) + o).toNat = pc') : Rch l Z n0 R y bytes mx rt D h k n pc' Ls st := r.go fun X hx b _ _ _ t q => XS.ifYes X.here hx rfl (pc0 := pc) rfl (hb b hd) rfl hc ho hp q
theorem ifNo {cd : ClassFile.Cond} {x : Int32} {o : Int} (r : Rch l Z n0 R y bytes mx rt D h k n pc Ls (.int x :: st)) (hd : decode bytes pc = .ok (.ifCond cd o, 3)) (hc : ifCond.holds cd x = false) : Rch l Z n0 R y bytes mx rt D h k n (pc + 3) Ls st := r.go fun X hx b _ _ _ t q => XS.ifNo X.here hx rfl (hb b hd) rfl hc q
theorem icmpYes {cd : ClassFile.Cond} {x z : Int32} {o : Int} {pc' : Nat} (r : Rch l Z n0 R y bytes mx rt D h k n pc Ls (.int z :: .int x :: st)) (hd : decode bytes pc = .ok (.if_icmp cd o, 3)) (hc : if_icmp.holds cd x z = true) (ho : 0 ≤ (pc : Int) + o) (hp : ((pc : Int) + o).toNat = pc') : Rch l Z n0 R y bytes mx rt D h k n pc' Ls st := r.go fun X hx b _ _ _ t q => XS.icmpYes X.here hx rfl (pc0 := pc) rfl (hb b hd) rfl hc ho hp q
theorem icmpNo {cd : ClassFile.Cond} {x z : Int32} {o : Int} (r : Rch l Z n0 R y bytes mx rt D h k n pc Ls (.int z :: .int x :: st)) (hd : decode bytes pc = .ok (.if_icmp cd o, 3)) (hc : if_icmp.holds cd x z = false) : Rch l Z n0 R y bytes mx rt D h k n (pc + 3) Ls st := r.go fun X hx b _ _ _ t q => XS.icmpNo X.here hx rfl (hb b hd) rfl hc q
theorem ifnullYes {o : Int} {pc' : Nat} (r : Rch l Z n0 R y bytes mx rt D h k n pc Ls (.null :: st)) (hd : decode bytes pc = .ok (.ifnull o, 3)) (ho : 0 ≤ (pc : Int) + o) (hp : ((pc : Int) + o).toNat = pc') : Rch l Z n0 R y bytes mx rt D h k n pc' Ls st := r.go fun X hx b _ _ _ t q => XS.ifnullYes X.here hx rfl (pc0 := pc) rfl (hb b hd) rfl ho hp q
theorem ifnullNo {o : Int} {a : Addr} (r : Rch l Z n0 R y bytes mx rt D h k n pc Ls (.ref a :: st)) (hd : decode bytes pc = .ok (.ifnull o, 3)) : Rch l Z n0 R y bytes mx rt D h k n (pc + 3) Ls st := r.go fun X hx b _ _ _ t q => XS.ifnullNo X.here hx rfl (hb b hd) rfl q
theorem ifnonnullYes {o : Int} {a : Addr} {pc' : Nat} (r : Rch l Z n0 R y bytes mx rt D h k n pc Ls (.ref a :: st)) (hd : decode bytes pc = .ok (.ifnonnull o, 3)) (ho : 0 ≤ (pc : Int) + o) (hp : ((pc : Int) + o).toNat = pc') : Rch l Z n0 R y bytes mx rt D h k n pc' Ls st := r.go fun X hx b _ _ _ t q => XS.ifnonnullYes X.here hx rfl (pc0 := pc) rfl (hb b hd) rfl ho hp q
theorem ifnonnullNo {o : Int} (r : Rch l Z n0 R y bytes mx rt D h k n pc Ls (.null :: st)) (hd : decode bytes pc = .ok (.ifnonnull o, 3)) : Rch l Z n0 R y bytes mx rt D h k n (pc + 3) Ls st := r.go fun X hx b _ _ _ t q => XS.ifnonnullNo X.here hx rfl (hb b hd) rfl q
theorem acmp {cd : ClassFile.ACond} {x z : Value} {o : Int} {pc' : Nat} {same : Bool} (r : Rch l Z n0 R y bytes mx rt D h k n pc Ls (z :: x :: st)) (hd : decode bytes pc = .ok (.if_acmp cd o, 3)) (h1 : x.isRef = true) (h2 : z.isRef = true) (hq : decide (x = z) = same) (ho : 0 ≤ (pc : Int) + o) (hp : pc' = if acV cd same = true then ((pc : Int) + o).toNat else pc + 3) : Rch l Z n0 R y bytes mx rt D h k n pc' Ls st := r.go fun X hx b _ _ _ t q => Jvm.RoadKit.acmp X hx rfl h1 h2 (pc0 := pc) rfl (hb b hd) rfl hq ho hp q
/-! constants, fields, new cells -/
theorem ldcI {index : Nat} {v : Int32} (r : Rch l Z n0 R y bytes mx rt D h k n pc Ls st) (hd : decode bytes pc = .ok (.ldc index, 2)) (w : (Jvm.Cond.constant y.cls index v).before a0 Z = true) : Rch l Z n0 R y bytes mx rt D h k n (pc + 2) Ls (.int v :: st) := r.go fun X hx b hZ ho _ t q => X.ldcInt hx ho (mvT hZ w) (g := mkF _ pc Ls st) rfl (hb b hd) t q
theorem ldcJ {index : Nat} {v : Int64} (r : Rch l Z n0 R y bytes mx rt D h k n pc Ls st) (hd : decode bytes pc = .ok (.ldc2_w index, 3)) (w : (Jvm.Cond.constantLong y.cls index v).before a0 Z = true) : Rch l Z n0 R y bytes mx rt D h k n (pc + 3) Ls (.long v :: st) := r.go fun X hx b hZ ho _ t q => X.ldc2Long hx ho (mvT hZ w) (g := mkF _ pc Ls st) rfl (hb b hd) t q
theorem ldcWI {index : Nat} {v : Int32} (r : Rch l Z n0 R y bytes mx rt D h k n pc Ls st) (hd : decode bytes pc = .ok (.ldc_w index, 3)) (w : (Jvm.Cond.constant y.cls index v).before a0 Z = true) : Rch l Z n0 R y bytes mx rt D h k n (pc + 3) Ls (.int v :: st) := r.go fun X hx b hZ ho _ t q => X.ldcwInt hx ho (mvT hZ w) (g := mkF _ pc Ls st) rfl (hb b hd) t q
theorem getfield {R0 O nm d host : String} {index : Nat} {a : Addr} {v : Value} (r : Rch l Z n0 R y bytes mx rt D h k n pc Ls (.ref a :: st)) (hd : decode bytes pc = .ok (.getfield index, 3)) (w : (Jvm.Cond.fieldLink y.cls index R0 nm d).before a0 Z = true ∨ (Jvm.Cond.fieldLinkNest y.cls index R0 nm d host).before a0 Z = true) (via : Via Z R0 O nm d) (F : Fld Z h a O nm d v) : Rch l Z n0 R y bytes mx rt D h k n (pc + 3) Ls (v :: st) := by
  obtain ⟨h', rfl, r'⟩ := r.mv (P := fun h' => h = h') (st' := fun _ => v :: st) (k' := k) (n' := n) (pc' := pc + 3) (Ls' := Ls) fun X hx b _ _ hZ ho eT N => by
    obtain ⟨T', X', e', s'⟩ := getF X hx hZ ho w via eT F (g := mkF _ pc Ls (.ref a :: st)) rfl rfl (hb b hd)
    exact ⟨T', h, _, X', e', rfl, N, s' _ (Steps.refl _)⟩
  exact r'
theorem getstatic {R0 O nm d : String} {index : Nat} {v : Value} (r : Rch l Z n0 R y bytes mx rt D h k n pc Ls st) (hd : decode bytes pc = .ok (.getstatic index, 3)) (w : (Jvm.Cond.fieldLink y.cls index R0 nm d).before a0 Z = true) (via : Via Z R0 O nm d) (F : Sta Z h O nm d v) : Rch l Z n0 R y bytes mx rt D h k n (pc + 3) Ls (v :: st) := by
  obtain ⟨h', rfl, r'⟩ := r.mv (P := fun h' => h = h') (st' := fun _ => v :: st) (k' := k) (n' := n) (pc' := pc + 3) (Ls' := Ls) fun X hx b _ _ hZ ho eT N => by
    obtain ⟨T', X', e', s'⟩ := getS X hx hZ (host := "") ho w via eT F (g := mkF _ pc Ls st) rfl (hb b hd)
    exact ⟨T', h, _, X', e', rfl, N, s' _ (Steps.refl _)⟩
  exact r'
theorem putfield {R0 O nm d host C : String} {index kk : Nat} {ty : FieldType} {a : Addr} {v old : Value} (r : Rch l Z n0 R y bytes mx rt D h k n pc Ls (v :: .ref a :: st)) (hd : decode bytes pc = .ok (.putfield index, 3)) (w : (Jvm.Cond.fieldLink y.cls index R0 nm d).before a0 Z = true ∨ (Jvm.Cond.fieldLinkNest y.cls index R0 nm d host).before a0 Z = true) (via : Via Z R0 O nm d) (F : Fld Z h a O nm d old) (E : Exa Z h a C)
    (L : (Jvm.Cond.lays C O nm d).before a0 Z = true ∨ ((Jvm.Cond.laysFinal C O nm d).before a0 Z = true ∧ y.cls = O ∧ y.name = "<init>")) (wi : (Jvm.Cond.instantiable C kk).before a0 Z = true) (hty : parseFieldDescriptor d = some ty) (hn : narrow ty v = v) (hf : fits ty v = true) (hg : n0 ≤ a) :
    ∃ h', Wr h h' a (Jvm.RoadKit.slotOf Z O nm d) v ∧ Rch l Z n0 R y bytes mx rt D h' k n (pc + 3) Ls st :=
  r.mv (P := fun h' => Wr h h' a (Jvm.RoadKit.slotOf Z O nm d) v) (st' := fun _ => st) fun X hx b _ hnm hZ ho eT N => by
    obtain ⟨T', h', X', e', W, s'⟩ := putF X hx hZ ho w via eT F E (L.imp id fun q => ⟨q.1, q.2.1, hnm.trans q.2.2⟩) wi hty hn hf (g := mkF _ pc Ls (v :: .ref a :: st)) rfl rfl (hb b hd)
    exact ⟨T', h', _, X', e', W, Fr.snoc X' N hg, s' _ (Steps.refl _)⟩
theorem newObj {C : String} {index nn : Nat} (r : Rch l Z n0 R y bytes mx rt D h k n pc Ls st) (hd : decode bytes pc = .ok (.new index, 3)) (w : (Jvm.Cond.classLink y.cls index C).before a0 Z = true) (wi : (Jvm.Cond.instantiable C nn).before a0 Z = true) (wz : (Jvm.Cond.initialized C).before a0 Z = true) (hc : k + 1 ≤ R.cells) (hl : n + nn ≤ R.slots) :
    ∃ h', (Ext h h' ∧ Exa Z h' h.size C ∧ ∀ {O nm d : String} {ty : FieldType}, Laid Z a0 C O nm d → parseFieldDescriptor d = some ty → Fld Z h' h.size O nm d (defaultValue ty)) ∧ Rch l Z n0 R y bytes mx rt D h' (k + 1) (n + nn) (pc + 3) Ls (.ref h.size :: st) :=
  r.mv (P := fun h' => Ext h h' ∧ Exa Z h' h.size C ∧ ∀ {O nm d : String} {ty : FieldType}, Laid Z a0 C O nm d → parseFieldDescriptor d = some ty → Fld Z h' h.size O nm d (defaultValue ty)) (st' := fun _ => .ref h.size :: st) fun X hx b _ _ hZ ho eT N => by
    obtain ⟨T', h', X', e', E', A', D', -, s'⟩ := newO X hx hZ ho w wi wz eT (g := mkF _ pc Ls st) rfl (hb b hd) hc hl
    exact ⟨T', h', _, X', e', ⟨E', A', D'⟩, N, s' _ (Steps.refl _)⟩
theorem initObj {index : Nat} {a : Addr} {W : Nat} (r : Rch l Z n0 R y bytes mx rt D h k n pc Ls (.ref a :: st)) (hd : decode bytes pc = .ok (.invokespecial index, 3)) (w1 : (Jvm.Cond.methodLink y.cls index Lib.objectInit).before a0 Z = true) (w2 : (Jvm.Cond.instanceMethod Lib.objectInit).before a0 Z = true) (w3 : (Jvm.Cond.code Lib.objectInit ⟨#[0xb1]⟩ 1 none).before a0 Z = true) (hsz : Ls.size = mx) (hf : 1 ≤ R.frames) (hW : (st.map fun v => v.category).sum ≤ W) (hl : W + 12 ≤ R.locals) : Rch l Z n0 R y bytes mx rt D h k n (pc + 3) Ls st := by
  obtain ⟨h', rfl, r'⟩ := r.mv (P := fun h' => h = h') (st' := fun _ => st) (k' := k) (n' := n) (pc' := pc + 3) (Ls' := Ls) fun X hx b hml _ hZ ho eT N => by
    obtain ⟨T', X', e', s'⟩ := initO X hx hZ ho w1 w2 w3 eT (g := mkF _ pc Ls (.ref a :: st)) rfl (hsz.trans hml.symm) rfl (hb b hd) hf (W := W) (by show 2 * 0 + _ ≤ _; omega) hl
    exact ⟨T', h, _, X', e', rfl, N, s' _ (Steps.refl _)⟩
  exact r'
theorem instYes {K : String} {index : Nat} {a : Addr} (r : Rch l Z n0 R y bytes mx rt D h k n pc Ls (.ref a :: st)) (hd : decode bytes pc = .ok (.instanceof index, 3)) (w : (Jvm.Cond.classLink y.cls index K).before a0 Z = true) (F : Ins Z h a K true) : Rch l Z n0 R y bytes mx rt D h k n (pc + 3) Ls (.int 1 :: st) := by
  obtain ⟨h', rfl, r'⟩ := r.mv (P := fun h' => h = h') (st' := fun _ => .int 1 :: st) (k' := k) (n' := n) (pc' := pc + 3) (Ls' := Ls) fun X hx b _ _ hZ ho eT N => by
    obtain ⟨T', X', e', s'⟩ := instY X hx hZ ho w eT F (g := mkF _ pc Ls (.ref a :: st)) rfl rfl (hb b hd)
    exact ⟨T', h, _, X', e', rfl, N, s' _ (Steps.refl _)⟩
  exact r'
theorem instNo {K C : String} {index : Nat} {a : Addr} (r : Rch l Z n0 R y bytes mx rt D h k n pc Ls (.ref a :: st)) (hd : decode bytes pc = .ok (.instanceof index, 3)) (w : (Jvm.Cond.classLink y.cls index K).before a0 Z = true) (E : Exa Z h a C) (F : ∃ c t, Z.vm.findClass C = some c ∧ Z.vm.findClass K = some t ∧ Z.vm.assignable c t = false) : Rch l Z n0 R y bytes mx rt D h k n (pc + 3) Ls (.int 0 :: st) := by
  obtain ⟨h', rfl, r'⟩ := r.mv (P := fun h' => h = h') (st' := fun _ => .int 0 :: st) (k' := k) (n' := n) (pc' := pc + 3) (Ls' := Ls) fun X hx b _ _ hZ ho eT N => by
    obtain ⟨T', X', e', s'⟩ := Jvm.RoadKit.instNo X hx hZ ho w eT E F (g := mkF _ pc Ls (.ref a :: st)) rfl rfl (hb b hd)
    exact ⟨T', h, _, X', e', rfl, N, s' _ (Steps.refl _)⟩
  exact r'
theorem instNull {index : Nat} (r : Rch l Z n0 R y bytes mx rt D h k n pc Ls (.null :: st)) (hd : decode bytes pc = .ok (.instanceof index, 3)) : Rch l Z n0 R y bytes mx rt D h k n (pc + 3) Ls (.int 0 :: st) := r.go fun X hx b _ _ _ t q => X.instanceofNull hx (g := mkF _ pc Ls (.null :: st)) rfl rfl (hb b hd) t q
theorem castYes {K : String} {index : Nat} {a : Addr} (r : Rch l Z n0 R y bytes mx rt D h k n pc Ls (.ref a :: st)) (hd : decode bytes pc = .ok (.checkcast index, 3)) (w : (Jvm.Cond.classLink y.cls index K).before a0 Z = true) (F : Ins Z h a K true) : Rch l Z n0 R y bytes mx rt D h k n (pc + 3) Ls (.ref a :: st) := by
  obtain ⟨h', rfl, r'⟩ := r.mv (P := fun h' => h = h') (st' := fun _ => .ref a :: st) (k' := k) (n' := n) (pc' := pc + 3) (Ls' := Ls) fun X hx b _ _ hZ ho eT N => by
    obtain ⟨T', X', e', s'⟩ := castY X hx hZ ho w eT F (g := mkF _ pc Ls (.ref a :: st)) rfl rfl (hb b hd)
    exact ⟨T', h, _, X', e', rfl, N, s' _ (Steps.refl _)⟩
  exact r'
theorem aaload {a : Addr} {c : Cell} {ty : FieldType} {j : Int32} {v : Value} (r : Rch l Z n0 R y bytes mx rt D h k n pc Ls (.int j :: .ref a :: st)) (hd : decode bytes pc = .ok (.aaload, 1)) (A : Arr Z h a c ty) (ht : ty.isReference = true) (hi : ¬ (j < 0 ∨ c.slots.size ≤ j.toNatClampNeg)) (hv : c.slots[j.toNatClampNeg]? = some v) : Rch l Z n0 R y bytes mx rt D h k n (pc + 1) Ls (v :: st) :=
  r.go fun X hx b hZ _ eT t q => X.aaload hx (j := j) (v := v) (by rw [eT]; exact A.1) (State.isArrayOf_alike hZ.alike A.2.1) ht A.2.2 hi hv (g := mkF _ pc Ls (.int j :: .ref a :: st)) rfl rfl (hb b hd) t q
/-! arrays: their elements as a list -/
def VA (Z : State) (h : Heap) (a : Addr) (ty : FieldType) (vs : List Value) : Prop := ∃ c : Cell, Arr Z h a c ty ∧ c.slots = vs.toArray ∧ vs.length < 2 ^ 31
section Facts
variable {a b : Addr} {ty : FieldType} {vs : List Value} {sl : Nat} {v : Value} {ws : List Addr}
theorem VA.lt (A : VA Z h a ty vs) : a < h.size := by obtain ⟨c, A, -⟩ := A; exact A.lt
theorem VA.len (A : VA Z h a ty vs) : vs.length < 2 ^ 31 := by obtain ⟨c, -, -, q⟩ := A; exact q
theorem VA.ext (A : VA Z h a ty vs) (E : Ext h h') : VA Z h' a ty vs := by obtain ⟨c, A, r⟩ := A; exact ⟨c, A.ext E, r⟩
theorem VA.other (A : VA Z h b ty vs) (W : Wr h h' a sl v) (q : b ≠ a) : VA Z h' b ty vs := by obtain ⟨c, A, r⟩ := A; exact ⟨c, A.other W q, r⟩
theorem VA.keep (A : VA Z h a ty vs) (K : Keep h h' ws) (q : a ∉ ws) : VA Z h' a ty vs := by obtain ⟨c, A, r⟩ := A; exact ⟨c, ⟨K.2.1 a c A.1 q, A.2⟩, r⟩
theorem VA.set (A : VA Z h a ty vs) (W : Wr h h' a sl v) : VA Z h' a ty (vs.set sl v) := by
  obtain ⟨c, A, e, q⟩ := A
  refine ⟨c.setSlot sl v, A.same W, ?_, by simpa using q⟩
  show c.slots.setIfInBounds sl v = _
  rw [e]; simp
theorem VA.new {cA : ClassId} {z : Int32} (A : Arr Z h a (newA cA ty z) ty) (q : ¬ z < 0) : VA Z h a ty (List.replicate z.toNatClampNeg (defaultValue ty)) := by
  refine ⟨_, A, ?_, ?_⟩
  · simp [newA]
  · rw [List.length_replicate]; exact (back32 q).2
theorem VA.inb (A : VA Z h a ty vs) {j : Int32} (hj : ¬ j < 0) (hlt : j.toNatClampNeg < vs.length) : ∃ c, Arr Z h a c ty ∧ c.slots = vs.toArray ∧ ¬ (j < 0 ∨ c.slots.size ≤ j.toNatClampNeg) := by
  obtain ⟨c, A, e, -⟩ := A
  exact ⟨c, A, e, fun q => q.elim hj fun q => by rw [e] at q; simp at q; omega⟩
theorem ne_lt {x z : Addr} {H : Heap} (p : x < H.size) (q : z = H.size) : x ≠ z := fun e => by rw [e, q] at p; exact Nat.lt_irrefl _ p
end Facts
theorem newArr {aty : ArrayType} {z : Int32} {cap : Nat} (r : Rch l Z n0 R y bytes mx rt D h k n pc Ls (.int z :: st)) (hd : decode bytes pc = .ok (.newarray aty, 2)) (w : (Jvm.Cond.arrayClass (newarray.typeOf aty)).before a0 Z = true) (hz : ¬ z < 0) (hcap : z.toNatClampNeg ≤ cap) (h8 : cap * 8 ≤ 536870912) (hc : k + 1 ≤ R.cells) (hl : n + cap ≤ R.slots) :
    ∃ h', (Ext h h' ∧ VA Z h' h.size (newarray.typeOf aty) (List.replicate z.toNatClampNeg (defaultValue (newarray.typeOf aty)))) ∧ Rch l Z n0 R y bytes mx rt D h' (k + 1) (n + cap) (pc + 2) Ls (.ref h.size :: st) :=
  r.mv (P := fun h' => Ext h h' ∧ VA Z h' h.size (newarray.typeOf aty) (List.replicate z.toNatClampNeg (defaultValue (newarray.typeOf aty)))) (st' := fun _ => .ref h.size :: st) fun X hx b _ _ hZ ho eT N => by
    obtain ⟨T', h', cA, X', e', E', A', s'⟩ := newP X hx hZ w eT (g := mkF _ pc Ls (.int z :: st)) rfl (hb b hd) rfl hz hcap h8 hc hl
    exact ⟨T', h', _, X', e', ⟨E', VA.new A' hz⟩, N, s' _ (Steps.refl _)⟩
theorem newRef {C : String} {index : Nat} {z : Int32} {cap : Nat} (r : Rch l Z n0 R y bytes mx rt D h k n pc Ls (.int z :: st)) (hd : decode bytes pc = .ok (.anewarray index, 3)) (w1 : (Jvm.Cond.classLink y.cls index C).before a0 Z = true) (w2 : (Jvm.Cond.arrayOver (.object C)).before a0 Z = true) (hz : ¬ z < 0) (hcap : z.toNatClampNeg ≤ cap) (h8 : cap * 8 ≤ 536870912) (hc : k + 1 ≤ R.cells) (hl : n + cap ≤ R.slots) :
    ∃ h', (Ext h h' ∧ VA Z h' h.size (.object C) (List.replicate z.toNatClampNeg .null)) ∧ Rch l Z n0 R y bytes mx rt D h' (k + 1) (n + cap) (pc + 3) Ls (.ref h.size :: st) :=
  r.mv (P := fun h' => Ext h h' ∧ VA Z h' h.size (.object C) (List.replicate z.toNatClampNeg .null)) (st' := fun _ => .ref h.size :: st) fun X hx b _ _ hZ ho eT N => by
    obtain ⟨T', h', cA, X', e', E', A', -, s'⟩ := newR X hx hZ ho w1 w2 eT (g := mkF _ pc Ls (.int z :: st)) rfl (hb b hd) rfl hz hcap h8 hc hl
    exact ⟨T', h', _, X', e', ⟨E', VA.new A' hz⟩, N, s' _ (Steps.refl _)⟩
theorem arrlen {a : Addr} {ty : FieldType} {vs : List Value} {z : Int32} (r : Rch l Z n0 R y bytes mx rt D h k n pc Ls (.ref a :: st)) (hd : decode bytes pc = .ok (.arraylength, 1)) (A : VA Z h a ty vs) (hz : vs.length.toInt32 = z) : Rch l Z n0 R y bytes mx rt D h k n (pc + 1) Ls (.int z :: st) := by
  subst hz
  obtain ⟨c, A, e, -⟩ := A
  have q : vs.length = c.slots.size := by rw [e]; simp
  rw [q]
  exact r.go fun X hx b hZ _ eT t q => X.arraylength hx (by rw [eT]; exact A.1) (State.isArrayOf_alike hZ.alike A.2.1) (g := mkF _ pc Ls (.ref a :: st)) rfl rfl (hb b hd) t q
theorem VA.arv {a : Addr} {L : List Int32} (A : VA Z h a .int (L.map Value.int)) : ∃ kc, Arv Z h a kc .int L.length.toInt32 (L.map Value.int) (.int 0) := by
  obtain ⟨c, A, e, hl⟩ := A
  rw [List.length_map] at hl
  have hz : L.length.toInt32.toInt = L.length := len_toInt hl
  have e1 : L.length.toInt32.toNatClampNeg = L.length := by unfold Int32.toNatClampNeg; omega
  refine ⟨c.cls, c, A, rfl, by rw [e, e1]; simp, by rw [Int32.lt_iff_toInt_lt]; have : (0 : Int32).toInt = 0 := rfl; omega, fun i hi => ?_, fun i hi => ?_⟩
  · rw [e] at hi ⊢
    simp at hi
    simp [List.getD_eq_getElem?_getD, hi]
  · rw [List.getD_eq_getElem?_getD, List.getElem?_map]
    cases L[i]? <;> rfl
theorem VA.of_arv {a : Addr} {kc : ClassId} {z : Int32} {vs : List Value} {d : Value} (A : Arv Z h a kc ty z vs d) (hz : z.toNatClampNeg = vs.length) : VA Z h a ty vs := by
  obtain ⟨c, A, -, S, Nz, H, -⟩ := A
  refine ⟨c, A, ?_, by rw [← hz]; exact (back32 Nz).2⟩
  apply Array.ext'
  apply List.ext_getElem?
  intro i
  by_cases q : i < c.slots.size
  · have := H i q
    rw [Array.getElem?_toList, this]
    have q' : i < vs.length := by omega
    simp [List.getD_eq_getElem?_getD, q']
  · rw [Array.getElem?_toList, Array.getElem?_eq_none (by omega)]
    simp; omega
theorem arrcopy {index : Nat} {a b : Addr} {L M : List Int32} {nn : Int32} {W : Nat} (r : Rch l Z n0 R y bytes mx rt D h k n pc Ls (.int nn :: .int 0 :: .ref b :: .int 0 :: .ref a :: st)) (hd : decode bytes pc = .ok (.invokestatic index, 3)) (w1 : (Jvm.Cond.methodLink y.cls index Jvm.Stand.acN).before a0 Z = true) (w2 : (Jvm.Cond.native Jvm.Stand.acN).before a0 Z = true) (w3 : (Jvm.Cond.static Jvm.Stand.acN).before a0 Z = true) (w4 : (Jvm.Cond.initialized "java/lang/System").before a0 Z = true)
    (A : VA Z h a .int (L.map Value.int)) (B : VA Z h b .int (M.map Value.int)) (hn : ¬ nn < 0) (h4 : nn.toNatClampNeg ≤ L.length) (h5 : nn.toNatClampNeg ≤ M.length) (ge : n0 ≤ b) (hsz : Ls.size = mx) (hf : 1 ≤ R.frames) (hW : (st.map fun v => v.category).sum ≤ W) (hlo : W + (nativeFrameWords "java/lang/System" "arraycopy" 5 + 11) ≤ R.locals) :
    ∃ h', (Keep h h' [b] ∧ VA Z h' b .int ((L.take nn.toNatClampNeg ++ M.drop nn.toNatClampNeg).map Value.int)) ∧ Rch l Z n0 R y bytes mx rt D h' k n (pc + 3) Ls st :=
  r.mv (P := fun h' => Keep h h' [b] ∧ VA Z h' b .int ((L.take nn.toNatClampNeg ++ M.drop nn.toNatClampNeg).map Value.int)) (st' := fun _ => st) fun X hx bb hml _ hZ ho eT N => by
    have lA := A.len; have lB := B.len
    rw [List.length_map] at lA lB
    obtain ⟨ka, A'⟩ := A.arv
    obtain ⟨kb, B'⟩ := B.arv
    have zA : L.length.toInt32.toNatClampNeg = L.length := by have := len_toInt lA; unfold Int32.toNatClampNeg; omega
    have zB : M.length.toInt32.toNatClampNeg = M.length := by have := len_toInt lB; unfold Int32.toNatClampNeg; omega
    have z0 : (0 : Int32).toNatClampNeg = 0 := rfl
    obtain ⟨T', h', LL, X', e', N', K, V, s'⟩ := cpA X hx hZ ho w1 w2 w3 w4 eT A' B' (Or.inl ⟨rfl, rfl⟩) (sp := 0) (dp := 0) (nn := nn) (by decide) (by decide) hn (by rw [z0, zA]; omega) (by rw [z0, zB]; omega) (us := (L.take nn.toNatClampNeg).map Value.int) (by
      rw [z0]
      apply List.ext_getElem?
      intro i
      by_cases q : i < nn.toNatClampNeg
      · have q' : i < L.length := by omega
        simp [q, q', List.getD_eq_getElem?_getD]
      · simp [q]; omega) (by rw [z0, List.length_map]; omega) N ge (g := mkF _ pc Ls (.int nn :: .int 0 :: .ref b :: .int 0 :: .ref a :: st)) rfl (hsz.trans hml.symm) rfl (hb bb hd) hf (W := W) (by show 2 * 0 + _ ≤ _; omega) hlo
    rw [z0] at V
    refine ⟨T', h', LL, X', e', ⟨K, ?_⟩, N', s' _ (Steps.refl _)⟩
    have V2 := VA.of_arv V (by rw [zB]; simp; omega)
    simpa using V2
theorem iaload {a : Addr} {vs : List Value} {j : Int32} {v : Value} (r : Rch l Z n0 R y bytes mx rt D h k n pc Ls (.int j :: .ref a :: st)) (hd : decode bytes pc = .ok (.iaload, 1)) (A : VA Z h a .int vs) (hj : ¬ j < 0) (hv : vs[j.toNatClampNeg]? = some v) : Rch l Z n0 R y bytes mx rt D h k n (pc + 1) Ls (v :: st) := by
  obtain ⟨c, A, e, hi⟩ := A.inb hj (List.getElem?_eq_some_iff.mp hv).1
  exact r.go fun X hx b hZ _ eT t q => X.iaload hx (j := j) (v := v) (by rw [eT]; exact A.1) (State.isArrayOf_alike hZ.alike A.2.1) A.2.2 hi (by rw [e]; simpa using hv) (g := mkF _ pc Ls (.int j :: .ref a :: st)) rfl rfl (hb b hd) t q
theorem laload {a : Addr} {vs : List Value} {j : Int32} {v : Value} (r : Rch l Z n0 R y bytes mx rt D h k n pc Ls (.int j :: .ref a :: st)) (hd : decode bytes pc = .ok (.laload, 1)) (A : VA Z h a .long vs) (hj : ¬ j < 0) (hv : vs[j.toNatClampNeg]? = some v) : Rch l Z n0 R y bytes mx rt D h k n (pc + 1) Ls (v :: st) := by
  obtain ⟨c, A, e, hi⟩ := A.inb hj (List.getElem?_eq_some_iff.mp hv).1
  exact r.go fun X hx b hZ _ eT t q => X.laload hx (j := j) (v := v) (by rw [eT]; exact A.1) (State.isArrayOf_alike hZ.alike A.2.1) A.2.2 hi (by rw [e]; simpa using hv) (g := mkF _ pc Ls (.int j :: .ref a :: st)) rfl rfl (hb b hd) t q
theorem caload {a : Addr} {vs : List Value} {j : Int32} {v : Value} (r : Rch l Z n0 R y bytes mx rt D h k n pc Ls (.int j :: .ref a :: st)) (hd : decode bytes pc = .ok (.caload, 1)) (A : VA Z h a .char vs) (hj : ¬ j < 0) (hv : vs[j.toNatClampNeg]? = some v) : Rch l Z n0 R y bytes mx rt D h k n (pc + 1) Ls (v :: st) := by
  obtain ⟨c, A, e, hi⟩ := A.inb hj (List.getElem?_eq_some_iff.mp hv).1
  exact r.go fun X hx b hZ _ eT t q => X.caload hx (j := j) (v := v) (by rw [eT]; exact A.1) (State.isArrayOf_alike hZ.alike A.2.1) A.2.2 hi (by rw [e]; simpa using hv) (g := mkF _ pc Ls (.int j :: .ref a :: st)) rfl rfl (hb b hd) t q
theorem baload {a : Addr} {vs : List Value} {j : Int32} {v : Value} (r : Rch l Z n0 R y bytes mx rt D h k n pc Ls (.int j :: .ref a :: st)) (hd : decode bytes pc = .ok (.baload, 1)) (A : VA Z h a .byte vs) (hj : ¬ j < 0) (hv : vs[j.toNatClampNeg]? = some v) : Rch l Z n0 R y bytes mx rt D h k n (pc + 1) Ls (v :: st) := by
  obtain ⟨c, A, e, hi⟩ := A.inb hj (List.getElem?_eq_some_iff.mp hv).1
  exact r.go fun X hx b hZ _ eT t q => X.baloadBytes hx (j := j) (v := v) (by rw [eT]; exact A.1) (State.isArrayOf_alike hZ.alike A.2.1) A.2.2 hi (by rw [e]; simpa using hv) (g := mkF _ pc Ls (.int j :: .ref a :: st)) rfl rfl (hb b hd) t q
theorem zaload {a : Addr} {vs : List Value} {j : Int32} {v : Value} (r : Rch l Z n0 R y bytes mx rt D h k n pc Ls (.int j :: .ref a :: st)) (hd : decode bytes pc = .ok (.baload, 1)) (A : VA Z h a .boolean vs) (hj : ¬ j < 0) (hv : vs[j.toNatClampNeg]? = some v) : Rch l Z n0 R y bytes mx rt D h k n (pc + 1) Ls (v :: st) := by
  obtain ⟨c, A, e, hi⟩ := A.inb hj (List.getElem?_eq_some_iff.mp hv).1
  exact r.go fun X hx b hZ _ eT t q => X.baloadBooleans hx (j := j) (v := v) (by rw [eT]; exact A.1) (State.isArrayOf_alike hZ.alike A.2.1) A.2.2 hi (by rw [e]; simpa using hv) (g := mkF _ pc Ls (.int j :: .ref a :: st)) rfl rfl (hb b hd) t q
theorem iastore {a : Addr} {vs : List Value} {j : Int32} {x : Int32} (r : Rch l Z n0 R y bytes mx rt D h k n pc Ls (.int x :: .int j :: .ref a :: st)) (hd : decode bytes pc = .ok (.iastore, 1)) (A : VA Z h a .int vs) (hj : ¬ j < 0) (hlt : j.toNatClampNeg < vs.length) (hg : n0 ≤ a) :
    ∃ h', (Wr h h' a j.toNatClampNeg (.int x) ∧ VA Z h' a .int (vs.set j.toNatClampNeg (.int x))) ∧ Rch l Z n0 R y bytes mx rt D h' k n (pc + 1) Ls st :=
  r.mv (P := fun h' => Wr h h' a j.toNatClampNeg (.int x) ∧ VA Z h' a .int (vs.set j.toNatClampNeg (.int x))) (st' := fun _ => st) fun X hx b _ _ hZ ho eT N => by
    obtain ⟨c, A', e, hi⟩ := A.inb hj hlt
    obtain ⟨T', h', X', e', W, s'⟩ := stI X hx hZ eT A' (j := j) hi (g := mkF _ pc Ls (.int x :: .int j :: .ref a :: st)) rfl rfl (hb b hd)
    exact ⟨T', h', _, X', e', ⟨W, A.set W⟩, Fr.snoc X' N hg, s' _ (Steps.refl _)⟩
theorem lastore {a : Addr} {vs : List Value} {j : Int32} {x : Int64} (r : Rch l Z n0 R y bytes mx rt D h k n pc Ls (.long x :: .int j :: .ref a :: st)) (hd : decode bytes pc = .ok (.lastore, 1)) (A : VA Z h a .long vs) (hj : ¬ j < 0) (hlt : j.toNatClampNeg < vs.length) (hg : n0 ≤ a) :
    ∃ h', (Wr h h' a j.toNatClampNeg (.long x) ∧ VA Z h' a .long (vs.set j.toNatClampNeg (.long x))) ∧ Rch l Z n0 R y bytes mx rt D h' k n (pc + 1) Ls st :=
  r.mv (P := fun h' => Wr h h' a j.toNatClampNeg (.long x) ∧ VA Z h' a .long (vs.set j.toNatClampNeg (.long x))) (st' := fun _ => st) fun X hx b _ _ hZ ho eT N => by
    obtain ⟨c, A', e, hi⟩ := A.inb hj hlt
    obtain ⟨T', h', X', e', W, s'⟩ := stJ X hx hZ eT A' (j := j) hi (g := mkF _ pc Ls (.long x :: .int j :: .ref a :: st)) rfl rfl (hb b hd)
    exact ⟨T', h', _, X', e', ⟨W, A.set W⟩, Fr.snoc X' N hg, s' _ (Steps.refl _)⟩
theorem castore {a : Addr} {vs : List Value} {j : Int32} {x : Int32} (r : Rch l Z n0 R y bytes mx rt D h k n pc Ls (.int x :: .int j :: .ref a :: st)) (hd : decode bytes pc = .ok (.castore, 1)) (A : VA Z h a .char vs) (hj : ¬ j < 0) (hlt : j.toNatClampNeg < vs.length) (hg : n0 ≤ a) :
    ∃ h', (Wr h h' a j.toNatClampNeg (.int (nar .char x)) ∧ VA Z h' a .char (vs.set j.toNatClampNeg (.int (nar .char x)))) ∧ Rch l Z n0 R y bytes mx rt D h' k n (pc + 1) Ls st :=
  r.mv (P := fun h' => Wr h h' a j.toNatClampNeg (.int (nar .char x)) ∧ VA Z h' a .char (vs.set j.toNatClampNeg (.int (nar .char x)))) (st' := fun _ => st) fun X hx b _ _ hZ ho eT N => by
    obtain ⟨c, A', e, hi⟩ := A.inb hj hlt
    obtain ⟨T', h', X', e', W, s'⟩ := stC X hx hZ eT A' (j := j) hi (g := mkF _ pc Ls (.int x :: .int j :: .ref a :: st)) rfl rfl (hb b hd)
    exact ⟨T', h', _, X', e', ⟨W, A.set W⟩, Fr.snoc X' N hg, s' _ (Steps.refl _)⟩
theorem bastore {a : Addr} {vs : List Value} {j : Int32} {x : Int32} (r : Rch l Z n0 R y bytes mx rt D h k n pc Ls (.int x :: .int j :: .ref a :: st)) (hd : decode bytes pc = .ok (.bastore, 1)) (A : VA Z h a .byte vs) (hj : ¬ j < 0) (hlt : j.toNatClampNeg < vs.length) (hg : n0 ≤ a) :
    ∃ h', (Wr h h' a j.toNatClampNeg (.int (nar .byte x)) ∧ VA Z h' a .byte (vs.set j.toNatClampNeg (.int (nar .byte x)))) ∧ Rch l Z n0 R y bytes mx rt D h' k n (pc + 1) Ls st :=
  r.mv (P := fun h' => Wr h h' a j.toNatClampNeg (.int (nar .byte x)) ∧ VA Z h' a .byte (vs.set j.toNatClampNeg (.int (nar .byte x)))) (st' := fun _ => st) fun X hx b _ _ hZ ho eT N => by
    obtain ⟨c, A', e, hi⟩ := A.inb hj hlt
    obtain ⟨T', h', X', e', W, s'⟩ := stB X hx hZ eT A' (j := j) hi (g := mkF _ pc Ls (.int x :: .int j :: .ref a :: st)) rfl rfl (hb b hd)
    exact ⟨T', h', _, X', e', ⟨W, A.set W⟩, Fr.snoc X' N hg, s' _ (Steps.refl _)⟩
theorem zastore {a : Addr} {vs : List Value} {j : Int32} {x : Int32} (r : Rch l Z n0 R y bytes mx rt D h k n pc Ls (.int x :: .int j :: .ref a :: st)) (hd : decode bytes pc = .ok (.bastore, 1)) (A : VA Z h a .boolean vs) (hj : ¬ j < 0) (hlt : j.toNatClampNeg < vs.length) (hg : n0 ≤ a) :
    ∃ h', (Wr h h' a j.toNatClampNeg (.int (nar .boolean x)) ∧ VA Z h' a .boolean (vs.set j.toNatClampNeg (.int (nar .boolean x)))) ∧ Rch l Z n0 R y bytes mx rt D h' k n (pc + 1) Ls st :=
  r.mv (P := fun h' => Wr h h' a j.toNatClampNeg (.int (nar .boolean x)) ∧ VA Z h' a .boolean (vs.set j.toNatClampNeg (.int (nar .boolean x)))) (st' := fun _ => st) fun X hx b _ _ hZ ho eT N => by
    obtain ⟨c, A', e, hi⟩ := A.inb hj hlt
    obtain ⟨T', h', X', e', W, s'⟩ := stZ X hx hZ eT A' (j := j) hi (g := mkF _ pc Ls (.int x :: .int j :: .ref a :: st)) rfl rfl (hb b hd)
    exact ⟨T', h', _, X', e', ⟨W, A.set W⟩, Fr.snoc X' N hg, s' _ (Steps.refl _)⟩
/-! the end -/
theorem Rch.ret0 (r : Rch l Z n0 R y bytes mx none D h k n pc Ls []) (hd : decode bytes pc = .ok (.return_, 1)) : Don l Z n0 R D h k n none := by
  obtain ⟨p, e, s, m, args, below, meth, c, s₁, g0⟩ := D
  obtain ⟨⟨hx, hbb, hml, ho, hZ, hr, hlk, hnm⟩, T, locs, X, eT, N, hs⟩ := r
  obtain ⟨fs, hl, hrun, hended, hW, hsame⟩ := X.leave (v := none) (fun _ => rfl) hlk
  exact ⟨T, locs, fs, X, eT, N, hs.trans (X.returnOut hx hr (hb hbb hd) hl), eT, hrun, hended, hW, hsame⟩
theorem Rch.retV {i : Instr} {t : FieldType} {w : Value} (r : Rch l Z n0 R y bytes mx (some t) D h k n pc Ls (w :: st)) (hd : decode bytes pc = .ok (i, 1)) (hn : narrow t w = w)
    (hi : (i = .ireturn ∧ (t = .int ∨ t = .boolean ∨ t = .byte ∨ t = .char ∨ t = .short) ∧ ∃ z, w = .int z) ∨ (i = .lreturn ∧ t = .long ∧ ∃ z, w = .long z) ∨ (i = .dreturn ∧ t = .double ∧ ∃ z, w = .double z) ∨ (i = .freturn ∧ t = .float ∧ ∃ z, w = .float z) ∨ (i = .areturn ∧ t.isReference = true ∧ w.isRef = true)) : Don l Z n0 R D h k n (some w) := by
  obtain ⟨p, e, s, m, args, below, meth, c, s₁, g0⟩ := D
  obtain ⟨⟨hx, hbb, hml, ho, hZ, hr, hlk, hnm⟩, T, locs, X, eT, N, hs⟩ := r
  obtain ⟨fs, hl, hrun, hended, hW, hsame⟩ := X.leave (v := some w) (fun q => by rw [hr] at q; cases q) hlk
  exact ⟨T, locs, fs, X, eT, N, hs.trans (retOut X hx hr hn hi (hb hbb hd) hl), eT, hrun, hended, hW, hsame⟩
theorem Rch.retI {z : Int32} (r : Rch l Z n0 R y bytes mx (some .int) D h k n pc Ls (.int z :: st)) (hd : decode bytes pc = .ok (.ireturn, 1)) : Don l Z n0 R D h k n (some (.int z)) := r.retV hd rfl (Or.inl ⟨rfl, Or.inl rfl, z, rfl⟩)
theorem Rch.retJ {z : Int64} (r : Rch l Z n0 R y bytes mx (some .long) D h k n pc Ls (.long z :: st)) (hd : decode bytes pc = .ok (.lreturn, 1)) : Don l Z n0 R D h k n (some (.long z)) := r.retV hd rfl (Or.inr (Or.inl ⟨rfl, rfl, z, rfl⟩))
theorem Rch.retZ {z : Int32} (r : Rch l Z n0 R y bytes mx (some .boolean) D h k n pc Ls (.int z :: st)) (hd : decode bytes pc = .ok (.ireturn, 1)) (hz : z &&& 1 = z) : Don l Z n0 R D h k n (some (.int z)) := r.retV hd (congrArg Value.int hz) (Or.inl ⟨rfl, Or.inr (Or.inl rfl), z, rfl⟩)
theorem Rch.retB {z : Int32} (r : Rch l Z n0 R y bytes mx (some .byte) D h k n pc Ls (.int z :: st)) (hd : decode bytes pc = .ok (.ireturn, 1)) (hz : z.toInt8.toInt32 = z) : Don l Z n0 R D h k n (some (.int z)) := r.retV hd (congrArg Value.int hz) (Or.inl ⟨rfl, Or.inr (Or.inr (Or.inl rfl)), z, rfl⟩)
theorem Rch.retA {t : FieldType} {w : Value} (r : Rch l Z n0 R y bytes mx (some t) D h k n pc Ls (w :: st)) (hd : decode bytes pc = .ok (.areturn, 1)) (ht : t.isReference = true) (hw : w.isRef = true) : Don l Z n0 R D h k n (some w) := r.retV hd (by rcases ref_cases hw with rfl | ⟨q, rfl⟩ <;> cases t <;> first | rfl | cases ht) (Or.inr (Or.inr (Or.inr (Or.inr ⟨rfl, ht, hw⟩))))
theorem Don.more {v : Option Value} (r : Don l Z n0 R D h k n v) {k' n' : Nat} (hk : k ≤ k') (hn : n ≤ n') : Don l Z n0 R D h k' n' v := by
  obtain ⟨p, e, s, m, args, below, meth, c, s₁, g0⟩ := D
  obtain ⟨T, locs, fs, X, eT, N, hs, hh, hrun, hend, hW, hsame⟩ := r
  exact ⟨T, locs, fs, X.more hk hn, eT, N, hs, hh, hrun, hend, hW, hsame.mono hk hn⟩
/-! calls -/
section Calls
variable {index : Nat} {y' : MethodName} {bytes' : ByteArray} {mx' : Nat} {rt' : Option FieldType} {rm : Room} {as' : Array Value} {Q : Option Value → Heap → Prop} {W : Nat} {rest : List Value}
theorem callS (argsL : List Value) (r : Rch l Z n0 R y bytes mx rt D h k n pc Ls st) (hd : decode bytes pc = .ok (.invokestatic index, 3)) (K : Con l Z n0 y' bytes' mx' rt' rm as' h Q) (w1 : (Jvm.Cond.methodLink y.cls index y').before a0 Z = true) (w2 : (Jvm.Cond.static y').before a0 Z = true) (w3 : (Jvm.Cond.initialized y'.cls).before a0 Z = true) (w4 : (Jvm.Cond.code y' bytes' mx' rt').before a0 Z = true)
    (hlen : ∀ sig, parseMethodDescriptor y'.desc = some sig → argsL.length = sig.parameters.length) (has : argsL.toArray = as') (hst : st = argsL.reverse ++ rest) (hW : (rest.map fun v => v.category).sum ≤ W) (hsz : Ls.size = mx) (hy : y'.cls ≠ "java/lang/invoke/MethodHandle" ∧ y'.cls ≠ "java/lang/invoke/VarHandle") (hf : rm.frames + 1 ≤ R.frames) (hlo : W + (mx' + 11) + rm.locals ≤ R.locals) (hc : k + rm.cells ≤ R.cells) (hs : n + rm.slots ≤ R.slots) :
    ∃ v h', Q v h' ∧ Rch l Z n0 R y bytes mx rt D h' (k + rm.cells) (n + rm.slots) (pc + 3) Ls (v.toList ++ rest) := by
  obtain ⟨p, e, s, m, args, below, meth, c, s₁, g0⟩ := D
  obtain ⟨hB, T, locs, X, eT, N, hs0⟩ := r
  obtain ⟨hx, hbb, hml, ho, hZ, hr, hlk, hnm⟩ := id hB
  subst hst
  obtain ⟨v, vm₁, ⟨T', L', k', n'⟩, -, X', ⟨Lc, ⟨N', hQ⟩, l1, y1, z1⟩, s'⟩ := Jvm.LawKit.callS X hx (y := y') ho (mvT hZ w1) (mvT hZ w2) (mvT hZ w3) (mvT hZ w4) hy (backOf (W := W) (Q := fun v h L => Fr n0 L ∧ Q v h) (K []) hZ w4 w3 hf hlo) (g := mkF m pc Ls (argsL.reverse ++ rest)) rfl (hsz.trans hml.symm) (argsL := argsL) (rest := rest) hlen rfl (by show 2 * 0 + _ ≤ _; omega) (hb hbb hd) (fun _ _ => ⟨has, eT, hc, hs⟩)
  dsimp only [Pt.U, Pt.locs, Pt.cells, Pt.slots] at X' l1 y1 z1 s' hQ
  subst l1 y1 z1
  exact ⟨v, T'.heap, hQ, hB, T', _, X', rfl, Fr.app N N', hs0.trans (s' _ (Steps.refl _))⟩
theorem callI {a : Addr} (argsL : List Value) (r : Rch l Z n0 R y bytes mx rt D h k n pc Ls st) (hd : decode bytes pc = .ok (.invokespecial index, 3)) (K : Con l Z n0 y' bytes' mx' none rm as' h Q) (w1 : (Jvm.Cond.methodLink y.cls index y').before a0 Z = true) (w2 : (Jvm.Cond.instanceMethod y').before a0 Z = true) (w3 : (Jvm.Cond.initialized y'.cls).before a0 Z = true) (w4 : (Jvm.Cond.code y' bytes' mx' none).before a0 Z = true) (hin : y'.name = "<init>")
    (hlen : ∀ sig, parseMethodDescriptor y'.desc = some sig → argsL.length = sig.parameters.length) (has : (.ref a :: argsL).toArray = as') (hst : st = argsL.reverse ++ .ref a :: rest) (hW : (rest.map fun v => v.category).sum ≤ W) (hsz : Ls.size = mx) (hy : y'.cls ≠ "java/lang/invoke/MethodHandle" ∧ y'.cls ≠ "java/lang/invoke/VarHandle") (hf : rm.frames + 1 ≤ R.frames) (hlo : W + (mx' + 11) + rm.locals ≤ R.locals) (hc : k + rm.cells ≤ R.cells) (hs : n + rm.slots ≤ R.slots) :
    ∃ v h', Q v h' ∧ Rch l Z n0 R y bytes mx rt D h' (k + rm.cells) (n + rm.slots) (pc + 3) Ls (v.toList ++ rest) := by
  obtain ⟨p, e, s, m, args, below, meth, c, s₁, g0⟩ := D
  obtain ⟨hB, T, locs, X, eT, N, hs0⟩ := r
  obtain ⟨hx, hbb, hml, ho, hZ, hr, hlk, hnm⟩ := id hB
  subst hst
  obtain ⟨v, vm₁, ⟨T', L', k', n'⟩, -, X', ⟨Lc, ⟨N', hQ⟩, l1, y1, z1⟩, s'⟩ := X.specialBack hx (y := y') hin ho (mvT hZ w1) (mvT hZ w2) (mvT hZ w4) hy (backOf (W := W) (Q := fun v h L => Fr n0 L ∧ Q v h) (K []) hZ w4 w3 hf hlo) (g := mkF m pc Ls (argsL.reverse ++ .ref a :: rest)) rfl (hsz.trans hml.symm) (Steps.refl _) (a := a) (argsL := argsL) (rest := rest) hlen rfl (by show 2 * 0 + _ ≤ _; omega) (hb hbb hd) (fun _ _ => ⟨has, eT, hc, hs⟩)
  dsimp only [Pt.U, Pt.locs, Pt.cells, Pt.slots] at X' l1 y1 z1 s' hQ
  subst l1 y1 z1
  exact ⟨v, T'.heap, hQ, hB, T', _, X', rfl, Fr.app N N', hs0.trans s'⟩
theorem callV {a : Addr} {yr : MethodName} {C : String} (argsL : List Value) (r : Rch l Z n0 R y bytes mx rt D h k n pc Ls st) (hd : decode bytes pc = .ok (.invokevirtual index, 3)) (K : Con l Z n0 y' bytes' mx' rt' rm as' h Q) (E : Exa Z h a C) (w1 : (Jvm.Cond.methodLink y.cls index yr).before a0 Z = true) (w2 : (Jvm.Cond.declares yr).before a0 Z = true) (nf : ∀ s : State, Z.Warmed39 s.vm → NotFace s yr) (w5 : (Jvm.Cond.selects C yr y').before a0 Z = true) (w6 : (Jvm.Cond.instanceMethod y').before a0 Z = true) (w3 : (Jvm.Cond.initialized y'.cls).before a0 Z = true) (w4 : (Jvm.Cond.code y' bytes' mx' rt').before a0 Z = true)
    (hlen : ∀ sig, parseMethodDescriptor yr.desc = some sig → argsL.length = sig.parameters.length) (has : (.ref a :: argsL).toArray = as') (hst : st = argsL.reverse ++ .ref a :: rest) (hW : (rest.map fun v => v.category).sum ≤ W) (hsz : Ls.size = mx) (hy : yr.cls ≠ "java/lang/invoke/MethodHandle" ∧ yr.cls ≠ "java/lang/invoke/VarHandle") (hf : rm.frames + 1 ≤ R.frames) (hlo : W + (mx' + 11) + rm.locals ≤ R.locals) (hc : k + rm.cells ≤ R.cells) (hs : n + rm.slots ≤ R.slots) :
    ∃ v h', Q v h' ∧ Rch l Z n0 R y bytes mx rt D h' (k + rm.cells) (n + rm.slots) (pc + 3) Ls (v.toList ++ rest) := by
  obtain ⟨p, e, s, m, args, below, meth, c, s₁, g0⟩ := D
  obtain ⟨hB, T, locs, X, eT, N, hs0⟩ := r
  obtain ⟨hx, hbb, hml, ho, hZ, hr, hlk, hnm⟩ := id hB
  subst hst
  obtain ⟨cq, kq, qa, qb, qc⟩ := isOf hZ eT E
  obtain ⟨v, vm₁, ⟨T', L', k', n'⟩, -, X', ⟨Lc, ⟨N', hQ⟩, l1, y1, z1⟩, s'⟩ := X.virtualBack hx (y := yr) (z := y') ho (mvT hZ w1) (mvT hZ w2) (nf s hZ) (mvT hZ w5) (mvT hZ w6) hy (backOf (W := W) (Q := fun v h L => Fr n0 L ∧ Q v h) (K []) hZ w4 w3 hf hlo) qa qc (g := mkF m pc Ls (argsL.reverse ++ .ref a :: rest)) rfl (hsz.trans hml.symm) (Steps.refl _) (argsL := argsL) (rest := rest) hlen rfl (by show 2 * 0 + _ ≤ _; omega) (hb hbb hd) (fun _ _ => ⟨has, eT, hc, hs⟩)
  dsimp only [Pt.U, Pt.locs, Pt.cells, Pt.slots] at X' l1 y1 z1 s' hQ
  subst l1 y1 z1
  exact ⟨v, T'.heap, hQ, hB, T', _, X', rfl, Fr.app N N', hs0.trans s'⟩
theorem nfS {yr : MethodName} {C : String} (w : (Jvm.Cond.selects C yr yr).before a0 Z = true) : ∀ s : State, Z.Warmed39 s.vm → NotFace s yr := fun s hZ => notFace_of_selects (args := #[]) (mvT hZ w)
theorem callP {a : Addr} {C : String} (argsL : List Value) (r : Rch l Z n0 R y bytes mx rt D h k n pc Ls st) (hd : decode bytes pc = .ok (.invokevirtual index, 3)) (K : Con l Z n0 y' bytes' mx' rt' rm as' h Q) (E : Exa Z h a C) (w1 : (Jvm.Cond.methodLink y.cls index y').before a0 Z = true) (w6 : (Jvm.Cond.instanceMethod y').before a0 Z = true) {kk : Nat} (wi : (Jvm.Cond.instantiable y'.cls kk).before a0 Z = true) (w7 : (Jvm.Cond.privateMethod y').before a0 Z = true) (w3 : (Jvm.Cond.initialized y'.cls).before a0 Z = true) (w4 : (Jvm.Cond.code y' bytes' mx' rt').before a0 Z = true)
    (hlen : ∀ sig, parseMethodDescriptor y'.desc = some sig → argsL.length = sig.parameters.length) (has : (.ref a :: argsL).toArray = as') (hst : st = argsL.reverse ++ .ref a :: rest) (hW : (rest.map fun v => v.category).sum ≤ W) (hsz : Ls.size = mx) (hy : y'.cls ≠ "java/lang/invoke/MethodHandle" ∧ y'.cls ≠ "java/lang/invoke/VarHandle") (hf : rm.frames + 1 ≤ R.frames) (hlo : W + (mx' + 11) + rm.locals ≤ R.locals) (hc : k + rm.cells ≤ R.cells) (hs : n + rm.slots ≤ R.slots) :
    ∃ v h', Q v h' ∧ Rch l Z n0 R y bytes mx rt D h' (k + rm.cells) (n + rm.slots) (pc + 3) Ls (v.toList ++ rest) := by
  obtain ⟨p, e, s, m, args, below, meth, c, s₁, g0⟩ := D
  obtain ⟨hB, T, locs, X, eT, N, hs0⟩ := r
  obtain ⟨hx, hbb, hml, ho, hZ, hr, hlk, hnm⟩ := id hB
  subst hst
  obtain ⟨cq, q1, q2⟩ := E.cell
  have hpv : s.PrivateAt y' := Cond.privateMethod_at (mvP hZ w7 (args := #[]))
  obtain ⟨ci, ki, i1, i2, -, i4, -, -⟩ := Cond.instantiable_spec (mvT (args := args) hZ wi)
  have hni : ki.isInterface = false := by
    cases q : ki.isInterface with
    | false => rfl
    | true => rw [q] at i4; simp at i4
  have hsel := selects_self_of_private (args := args) i1 i2 hni hpv (mvT hZ w6) hy
  obtain ⟨v, vm₁, ⟨T', L', k', n'⟩, -, X', ⟨Lc, ⟨N', hQ⟩, l1, y1, z1⟩, s'⟩ := X.privateBack hx (y := y') ho (mvT hZ w1) (mvT hZ w6) hsel hpv (mvT hZ w4) hy (backOf (W := W) (Q := fun v h L => Fr n0 L ∧ Q v h) (K []) hZ w4 w3 hf hlo) (g := mkF m pc Ls (argsL.reverse ++ .ref a :: rest)) rfl (hsz.trans hml.symm) (Steps.refl _) (a := a) (by rw [eT]; exact q1) q2 (argsL := argsL) (rest := rest) hlen rfl (by show 2 * 0 + _ ≤ _; omega) (hb hbb hd) (fun _ _ => ⟨has, eT, hc, hs⟩)
  dsimp only [Pt.U, Pt.locs, Pt.cells, Pt.slots] at X' l1 y1 z1 s' hQ
  subst l1 y1 z1
  exact ⟨v, T'.heap, hQ, hB, T', _, X', rfl, Fr.app N N', hs0.trans s'⟩
end Calls
/-! a walk that resolves a String constant: the start's tables are re-based -/
def Reb (D0 D : Dyn) (h : Heap) : Prop := match D0 with
  | (p, e, s, m, args, below, meth, c, s₁, g0) => ∃ (vm' : Vm) (n : Nat), s.Since vm' n ∧ n ≤ h.size ∧ D = (p, e, s.setVm vm', m, args, below, meth, c, s₁, g0)
theorem Reb.refl (D : Dyn) (h : Heap) : Reb D D h := by
  obtain ⟨p, e, s, m, args, below, meth, c, s₁, g0⟩ := D
  exact ⟨s.vm, h.size, (State.WarmedH.refl s).since _, Nat.le_refl _, rfl⟩
theorem Reb.grow {D0 D : Dyn} (B : Reb D0 D h) (q : h.size ≤ h'.size) : Reb D0 D h' := by
  obtain ⟨p, e, s, m, args, below, meth, c, s₁, g0⟩ := D0
  obtain ⟨vm', n, h1, h2, h3⟩ := B
  exact ⟨vm', n, h1, Nat.le_trans h2 q, h3⟩
theorem ldcStr {D0 : Dyn} {text : String} {index nn : Nat} (r : Rch l Z n0 R y bytes mx rt D h k n pc Ls st) (B : Reb D0 D h) (hd : decode bytes pc = .ok (.ldc index, 2)) (w : (Jvm.Cond.stringLink y.cls index text).before a0 Z = true) (wS : ∀ a ∈ Bundle.stringAtoms, a.before a0 Z = true) (hn : 4 * text.toList.length ≤ nn) (hbig : nn ≤ 536870912) (hc : k + 2 ≤ R.cells) (hl : n + (nn + 4) ≤ R.slots) :
    ∃ (D' : Dyn) (h' : Heap) (a : Addr), Reb D0 D' h' ∧ Ext h h' ∧ Rch l Z n0 R y bytes mx rt D' h' (k + 2) (n + (nn + 4)) (pc + 2) Ls (.ref a :: st) := by
  obtain ⟨p, e, s, m, args, below, meth, c, s₁, g0⟩ := D0
  obtain ⟨vm0, n1, hS, hk, rfl⟩ := B
  obtain ⟨hB, T, locs, X, eT, N, hs0⟩ := r
  obtain ⟨hx, hbb, hml, ho, hZ, hr, hlk, hnm⟩ := hB
  obtain ⟨a, T', h', k1, X', e', E, hS', hk', hZ', ho', st'⟩ := ldcS X hx hZ ho w wS eT hS hk (g := mkF m pc Ls st) rfl (hb hbb hd) hn hbig hc hl
  exact ⟨(p, e, s.setVm T'.vm, m, args, below, meth, c, s₁, g0), h', a, ⟨T'.vm, k1, hS', hk', rfl⟩, E, ⟨hx, hbb, hml, ho', hZ', hr, hlk, hnm⟩, T', locs, X', e', N, hs0.trans (st' _ (Steps.refl _))⟩
def ConW (l : Launch) (Z : State) (n0 : Nat) (y : MethodName) (bytes : ByteArray) (mx : Nat) (rt : Option FieldType) (rm : Room) (as' : Array Value) (h : Heap) (Q : Option Value → Heap → Prop) : Prop :=
  ∀ ws : List Jvm.Cond, MetFree l y (head1 (Jvm.Cond.code y bytes mx rt :: ws) rm) (fun a U => a = as' ∧ Z.Warmed39 U.vm ∧ U.heap = h) (fun _ _ _ _ _ => True) (fun _ U o U' => ∃ v L, o = .returned v ∧ (Fr n0 L ∧ Q v U'.heap) ∧ U.Warmed39 U'.vm ∧ U.Booked U'.vm U'.heap.size ∧ U.sameButNew ({ U' with vm := U.vm } : State) L rm.cells rm.slots)
theorem ConW.enter {rm : Room} {as' : Array Value} {Q : Option Value → Heap → Prop} (hp : plainFor y = true) (ef : ∀ m, entryFrame m as' mx = mkF m 0 Ls [])
    (f : ∀ D : Dyn, Rch l Z n0 rm y bytes mx rt D h 0 0 0 Ls [] → ∃ D' v h', Reb D D' h' ∧ Don l Z n0 rm D' h' rm.cells rm.slots v ∧ Q v h') : ConW l Z n0 y bytes mx rt rm as' h Q := by
  intro ws
  refine MetFree.of_bodySF hp hisR ?_
  intro p e s m args below meth c s₁ Bd hml0 hP hK
  obtain ⟨rfl, hZ, hh⟩ := hP
  have X0 : Stand p l e rm s m args below meth c s₁ [] 0 0 := Stand.of_body Bd
  have e0 : s₁.heap = h := by rw [← hh, Bd.state]; rfl
  obtain ⟨D', v, h', ⟨vm', n1, hS, hk, rfl⟩, hD, hQ⟩ := f (p, e, s, m, args, below, meth, c, s₁, mkF m 0 Ls []) ⟨⟨Bd.exec, Bd.bytes, hml0, findClass_of_methodNamed Bd.named, hZ, Bd.returns, Bd.notSynchronized, (name_of_methodNamed Bd.named Bd.method).1⟩, s₁, [], X0, e0, Fr.nil n0, Steps.refl _⟩
  obtain ⟨T, locs, fs, X, eT, N, hs, hh', hrun, hend, hW, hsame⟩ := hD
  obtain ⟨w1, w2, w3⟩ := hS.ended hW (by rw [hh']; exact hk) hsame
  exact ⟨_, _, castTop (ef m) hs, hrun, hend, v, locs, rfl, ⟨N, hh'.symm ▸ hQ⟩, w1, w2, w3⟩
end Kit
end Jvm.Own

namespace Jvm.Own
open Sem ClassFile Op Lib Jvm.Stand Jvm.Free Jvm.LawKit Jvm.RoadKit
section Wide
variable {l : Launch} {Z : State} {a0 : Array Value} {n0 : Nat} {R : Room} {y : MethodName} {bytes : ByteArray} {mx : Nat} {rt : Option FieldType} {D : Dyn} {h h' : Heap} {k n pc : Nat} {Ls : Array Slot} {st : List Value}
/-- a contract of a callee that may resolve String constants -/
def ConV (l : Launch) (Z : State) (n0 : Nat) (y : MethodName) (bytes : ByteArray) (mx : Nat) (rt : Option FieldType) (rm : Room) (as' : Array Value) (h : Heap) (Q : Option Value → Heap → Prop) : Prop :=
  ∀ ws : List Jvm.Cond, MetFree l y (head1 (Jvm.Cond.code y bytes mx rt :: ws) rm) (fun a U => a = as' ∧ Z.Warmed39 U.vm ∧ U.heap = h) (fun _ _ _ _ _ => True) (fun _ U o U' => ∃ v L, o = .returned v ∧ (Fr n0 L ∧ Q v U'.heap) ∧ ReturnedEndW U o U' L rm.cells rm.slots)
theorem ConV.enter {rm : Room} {as' : Array Value} {Q : Option Value → Heap → Prop} (hp : plainFor y = true) (ef : ∀ m, entryFrame m as' mx = mkF m 0 Ls [])
    (f : ∀ D : Dyn, Rch l Z n0 rm y bytes mx rt D h 0 0 0 Ls [] → ∃ D' v h', Reb D D' h' ∧ Don l Z n0 rm D' h' rm.cells rm.slots v ∧ Q v h') : ConV l Z n0 y bytes mx rt rm as' h Q := by
  intro ws
  refine MetFree.of_bodySF hp hisR ?_
  intro p e s m args below meth c s₁ Bd hml0 hP hK
  obtain ⟨rfl, hZ, hh⟩ := hP
  have X0 : Stand p l e rm s m args below meth c s₁ [] 0 0 := Stand.of_body Bd
  have e0 : s₁.heap = h := by rw [← hh, Bd.state]; rfl
  obtain ⟨D', v, h', ⟨vm', n1, hS, hk, rfl⟩, hD, hQ⟩ := f (p, e, s, m, args, below, meth, c, s₁, mkF m 0 Ls []) ⟨⟨Bd.exec, Bd.bytes, hml0, findClass_of_methodNamed Bd.named, hZ, Bd.returns, Bd.notSynchronized, (name_of_methodNamed Bd.named Bd.method).1⟩, s₁, [], X0, e0, Fr.nil n0, Steps.refl _⟩
  obtain ⟨T, locs, fs, X, eT, N, hs, hh', hrun, hend, hW, hsame⟩ := hD
  obtain ⟨w1, w2, w3⟩ := hS.ended hW (by rw [hh']; exact hk) hsame
  exact ⟨_, _, castTop (ef m) hs, hrun, hend, v, locs, rfl, ⟨N, hh'.symm ▸ hQ⟩, ⟨⟨_, rfl⟩, w1, w2, w3⟩⟩
variable {index : Nat} {y' : MethodName} {bytes' : ByteArray} {mx' : Nat} {rt' : Option FieldType} {rm : Room} {as' : Array Value} {Q : Option Value → Heap → Prop} {W : Nat} {rest : List Value} {D0 : Dyn}
theorem callIV {a : Addr} (argsL : List Value) (r : Rch l Z n0 R y bytes mx rt D h k n pc Ls st) (B : Reb D0 D h) (hd : decode bytes pc = .ok (.invokespecial index, 3)) (K : ConV l Z n0 y' bytes' mx' none rm as' h Q) (w1 : (Jvm.Cond.methodLink y.cls index y').before a0 Z = true) (w2 : (Jvm.Cond.instanceMethod y').before a0 Z = true) (w3 : (Jvm.Cond.initialized y'.cls).before a0 Z = true) (w4 : (Jvm.Cond.code y' bytes' mx' none).before a0 Z = true) (hin : y'.name = "<init>")
    (hlen : ∀ sig, parseMethodDescriptor y'.desc = some sig → argsL.length = sig.parameters.length) (has : (.ref a :: argsL).toArray = as') (hst : st = argsL.reverse ++ .ref a :: rest) (hW : (rest.map fun v => v.category).sum ≤ W) (hsz : Ls.size = mx) (hy : y'.cls ≠ "java/lang/invoke/MethodHandle" ∧ y'.cls ≠ "java/lang/invoke/VarHandle") (hf : rm.frames + 1 ≤ R.frames) (hlo : W + (mx' + 11) + rm.locals ≤ R.locals) (hc : k + rm.cells ≤ R.cells) (hs : n + rm.slots ≤ R.slots) :
    ∃ D' v h', Q v h' ∧ Reb D0 D' h' ∧ Rch l Z n0 R y bytes mx rt D' h' (k + rm.cells) (n + rm.slots) (pc + 3) Ls (v.toList ++ rest) := by
  obtain ⟨p, e, s, m, args, below, meth, c, s₁, g0⟩ := D0
  obtain ⟨vm0, n1, hS, hk, rfl⟩ := B
  obtain ⟨hB, T, locs, X, eT, N, hs0⟩ := r
  obtain ⟨hx, hbb, hml, ho, hZ, hr, hlk, hnm⟩ := id hB
  subst hst
  obtain ⟨v, vm₁, ⟨T', L', k', n'⟩, -, X', hS2, hgr, ⟨Lc, ⟨N', hQ⟩, l1, y1, z1⟩, s'⟩ := X.specialBackS hx (y := y') hin ho (mvT hZ w1) (mvT hZ w2) (mvT hZ w4) hy (backOfS (W := W) (Q := fun v h L => Fr n0 L ∧ Q v h) (K []) hZ w4 w3 hf hlo) (g := mkF m pc Ls (argsL.reverse ++ .ref a :: rest)) rfl (hsz.trans hml.symm) (Steps.refl _) (a := a) (argsL := argsL) (rest := rest) hlen rfl (by show 2 * 0 + _ ≤ _; omega) (hb hbb hd) (fun _ _ => ⟨has, eT, hc, hs⟩)
  dsimp only [Pt.U, Pt.locs, Pt.cells, Pt.slots] at X' l1 y1 z1 s' hQ hS2 hgr
  subst l1 y1 z1
  obtain ⟨X3, hS3, hZ3, ho3⟩ := rebS hS (n1 := T.heap.size) (by rw [eT]; exact hk) X' hS2 hgr hZ ho
  exact ⟨(p, e, s.setVm T'.vm, m, args, below, meth, c, s₁, g0), v, T'.heap, hQ, ⟨T'.vm, T'.heap.size, hS3, Nat.le_refl _, rfl⟩, ⟨hx, hbb, hml, ho3, hZ3, hr, hlk, hnm⟩, T', _, X3, rfl, Fr.app N N', hs0.trans s'⟩
theorem callVV {a : Addr} {yr : MethodName} {C : String} (argsL : List Value) (r : Rch l Z n0 R y bytes mx rt D h k n pc Ls st) (B : Reb D0 D h) (hd : decode bytes pc = .ok (.invokevirtual index, 3)) (K : ConV l Z n0 y' bytes' mx' rt' rm as' h Q) (E : Exa Z h a C) (w1 : (Jvm.Cond.methodLink y.cls index yr).before a0 Z = true) (w2 : (Jvm.Cond.declares yr).before a0 Z = true) (nf : ∀ s : State, Z.Warmed39 s.vm → NotFace s yr) (w5 : (Jvm.Cond.selects C yr y').before a0 Z = true) (w6 : (Jvm.Cond.instanceMethod y').before a0 Z = true) (w3 : (Jvm.Cond.initialized y'.cls).before a0 Z = true) (w4 : (Jvm.Cond.code y' bytes' mx' rt').before a0 Z = true)
    (hlen : ∀ sig, parseMethodDescriptor yr.desc = some sig → argsL.length = sig.parameters.length) (has : (.ref a :: argsL).toArray = as') (hst : st = argsL.reverse ++ .ref a :: rest) (hW : (rest.map fun v => v.category).sum ≤ W) (hsz : Ls.size = mx) (hy : yr.cls ≠ "java/lang/invoke/MethodHandle" ∧ yr.cls ≠ "java/lang/invoke/VarHandle") (hf : rm.frames + 1 ≤ R.frames) (hlo : W + (mx' + 11) + rm.locals ≤ R.locals) (hc : k + rm.cells ≤ R.cells) (hs : n + rm.slots ≤ R.slots) :
    ∃ D' v h', Q v h' ∧ Reb D0 D' h' ∧ Rch l Z n0 R y bytes mx rt D' h' (k + rm.cells) (n + rm.slots) (pc + 3) Ls (v.toList ++ rest) := by
  obtain ⟨p, e, s, m, args, below, meth, c, s₁, g0⟩ := D0
  obtain ⟨vm0, n1, hS, hk, rfl⟩ := B
  obtain ⟨hB, T, locs, X, eT, N, hs0⟩ := r
  obtain ⟨hx, hbb, hml, ho, hZ, hr, hlk, hnm⟩ := id hB
  subst hst
  obtain ⟨cq, kq, qa, qb, qc⟩ := isOf hZ eT E
  obtain ⟨v, vm₁, ⟨T', L', k', n'⟩, -, X', hS2, hgr, ⟨Lc, ⟨N', hQ⟩, l1, y1, z1⟩, s'⟩ := X.virtualBackS hx (y := yr) (z := y') ho (mvT hZ w1) (mvT hZ w2) (nf _ hZ) (mvT hZ w5) (mvT hZ w6) hy (backOfS (W := W) (Q := fun v h L => Fr n0 L ∧ Q v h) (K []) hZ w4 w3 hf hlo) qa qc (g := mkF m pc Ls (argsL.reverse ++ .ref a :: rest)) rfl (hsz.trans hml.symm) (Steps.refl _) (argsL := argsL) (rest := rest) hlen rfl (by show 2 * 0 + _ ≤ _; omega) (hb hbb hd) (fun _ _ => ⟨has, eT, hc, hs⟩)
  dsimp only [Pt.U, Pt.locs, Pt.cells, Pt.slots] at X' l1 y1 z1 s' hQ hS2 hgr
  subst l1 y1 z1
  obtain ⟨X3, hS3, hZ3, ho3⟩ := rebS hS (n1 := T.heap.size) (by rw [eT]; exact hk) X' hS2 hgr hZ ho
  exact ⟨(p, e, s.setVm T'.vm, m, args, below, meth, c, s₁, g0), v, T'.heap, hQ, ⟨T'.vm, T'.heap.size, hS3, Nat.le_refl _, rfl⟩, ⟨hx, hbb, hml, ho3, hZ3, hr, hlk, hnm⟩, T', _, X3, rfl, Fr.app N N', hs0.trans s'⟩
theorem callF {a : Addr} {xi : MethodName} {C : String} {count : Nat} (argsL : List Value) (r : Rch l Z n0 R y bytes mx rt D h k n pc Ls st) (hd : decode bytes pc = .ok (.invokeinterface index count, 5)) (K : Con l Z n0 y' bytes' mx' rt' rm as' h Q) (E : Exa Z h a C) (w1 : (Jvm.Cond.methodLink y.cls index xi).before a0 Z = true) (w2 : (Jvm.Cond.declares xi).before a0 Z = true) (wf : (Jvm.Cond.interfaceMethod xi.cls xi.cls xi.name xi.desc).before a0 Z = true) (hdf : ((Jvm.Cond.interfaceMethod xi.cls xi.cls xi.name xi.desc).onTables && (Jvm.Cond.interfaceMethod xi.cls xi.cls xi.name xi.desc).keepsFace) = true) (w5 : (Jvm.Cond.selects C xi y').before a0 Z = true) (w6 : (Jvm.Cond.instanceMethod y').before a0 Z = true) (wp : (Jvm.Cond.publicMethod y').before a0 Z = true) (wu : (Jvm.Cond.unhidden C xi.name xi.desc).before a0 Z = true) (wc : (Jvm.Cond.castable C xi.cls).before a0 Z = true) (w3 : (Jvm.Cond.initialized y'.cls).before a0 Z = true) (w4 : (Jvm.Cond.code y' bytes' mx' rt').before a0 Z = true)
    (hlen : ∀ sig, parseMethodDescriptor xi.desc = some sig → argsL.length = sig.parameters.length) (has : (.ref a :: argsL).toArray = as') (hst : st = argsL.reverse ++ .ref a :: rest) (hW : (rest.map fun v => v.category).sum ≤ W) (hsz : Ls.size = mx) (hy : xi.cls ≠ "java/lang/invoke/MethodHandle" ∧ xi.cls ≠ "java/lang/invoke/VarHandle") (hf : rm.frames + 1 ≤ R.frames) (hlo : W + (mx' + 11) + rm.locals ≤ R.locals) (hc : k + rm.cells ≤ R.cells) (hs : n + rm.slots ≤ R.slots) :
    ∃ v h', Q v h' ∧ Rch l Z n0 R y bytes mx rt D h' (k + rm.cells) (n + rm.slots) (pc + 5) Ls (v.toList ++ rest) := by
  obtain ⟨p, e, s, m, args, below, meth, c, s₁, g0⟩ := D
  obtain ⟨hB, T, locs, X, eT, N, hs0⟩ := r
  obtain ⟨hx, hbb, hml, ho, hZ, hr, hlk, hnm⟩ := id hB
  subst hst
  obtain ⟨cq, kq, qa, qb, qc⟩ := isOf hZ eT E
  obtain ⟨v, vm₁, ⟨T', L', k', n'⟩, -, X', ⟨Lc, ⟨N', hQ⟩, l1, y1, z1⟩, s'⟩ := X.interfaceBack hx (xi := xi) (y := y') ho (mvT hZ w1) (mvT hZ w2) (mv hZ wf hdf) (mvT hZ w5) (mvT hZ w6) (mv hZ wp) (mv hZ wu) (mv hZ wc) hy (backOf (W := W) (Q := fun v h L => Fr n0 L ∧ Q v h) (K []) hZ w4 w3 hf hlo) qa qb qc (g := mkF m pc Ls (argsL.reverse ++ .ref a :: rest)) rfl (hsz.trans hml.symm) (Steps.refl _) (argsL := argsL) (rest := rest) hlen rfl (by show 2 * 0 + _ ≤ _; omega) (hb hbb hd) (fun _ _ => ⟨has, eT, hc, hs⟩)
  dsimp only [Pt.U, Pt.locs, Pt.cells, Pt.slots] at X' l1 y1 z1 s' hQ
  subst l1 y1 z1
  exact ⟨v, T'.heap, hQ, hB, T', _, X', rfl, Fr.app N N', hs0.trans s'⟩
/-- an array of references whose class is known to be the array class over C -/
def OV (Z : State) (h : Heap) (a : Addr) (C : String) : Prop := ∃ c : Cell, h[a]? = some c ∧ Ovr Z c.cls C
variable {a b : Addr} {C : String} {sl : Nat} {v : Value} {ws : List Addr}
theorem OV.lt (F : OV Z h a C) : a < h.size := by obtain ⟨c, q, -⟩ := F; exact (Array.getElem?_eq_some_iff.mp q).1
theorem OV.ext (F : OV Z h a C) (E : Ext h h') : OV Z h' a C := by obtain ⟨c, q, o⟩ := F; exact ⟨c, E.2 _ _ q, o⟩
theorem OV.wr (F : OV Z h a C) (W : Wr h h' b sl v) : OV Z h' a C := by
  obtain ⟨c, q, o⟩ := F
  obtain ⟨c', e1, e2, -⟩ := wr_at W q
  exact ⟨c', e1, by rw [e2]; exact o⟩
theorem OV.keep (F : OV Z h a C) (K : Keep h h' ws) : OV Z h' a C := by
  obtain ⟨c, q, o⟩ := F
  obtain ⟨c', q', r1, -⟩ := K.2.2 a c q
  exact ⟨c', q', by rw [r1]; exact o⟩
theorem newRefO {z : Int32} {cap : Nat} (r : Rch l Z n0 R y bytes mx rt D h k n pc Ls (.int z :: st)) (hd : decode bytes pc = .ok (.anewarray index, 3)) (w1 : (Jvm.Cond.classLink y.cls index C).before a0 Z = true) (w2 : (Jvm.Cond.arrayOver (.object C)).before a0 Z = true) (hz : ¬ z < 0) (hcap : z.toNatClampNeg ≤ cap) (h8 : cap * 8 ≤ 536870912) (hc : k + 1 ≤ R.cells) (hl : n + cap ≤ R.slots) :
    ∃ h', (Ext h h' ∧ VA Z h' h.size (.object C) (List.replicate z.toNatClampNeg .null) ∧ OV Z h' h.size C) ∧ Rch l Z n0 R y bytes mx rt D h' (k + 1) (n + cap) (pc + 3) Ls (.ref h.size :: st) :=
  r.mv (P := fun h' => Ext h h' ∧ VA Z h' h.size (.object C) (List.replicate z.toNatClampNeg .null) ∧ OV Z h' h.size C) (st' := fun _ => .ref h.size :: st) fun X hx b _ _ hZ ho eT N => by
    obtain ⟨T', h', cA, X', e', E', A', O', s'⟩ := newR X hx hZ ho w1 w2 eT (g := mkF _ pc Ls (.int z :: st)) rfl (hb b hd) rfl hz hcap h8 hc hl
    exact ⟨T', h', _, X', e', ⟨E', VA.new A' hz, ⟨_, A'.1, O'⟩⟩, N, s' _ (Steps.refl _)⟩
theorem aastore {ty : FieldType} {vs : List Value} {j : Int32} {x : Addr} (r : Rch l Z n0 R y bytes mx rt D h k n pc Ls (.ref x :: .int j :: .ref a :: st)) (hd : decode bytes pc = .ok (.aastore, 1)) (A : VA Z h a ty vs) (ht : ty.isReference = true) (O : OV Z h a C) (I : Ins Z h x C true) (hj : ¬ j < 0) (hlt : j.toNatClampNeg < vs.length) (hg : n0 ≤ a) :
    ∃ h', (Wr h h' a j.toNatClampNeg (.ref x) ∧ VA Z h' a ty (vs.set j.toNatClampNeg (.ref x))) ∧ Rch l Z n0 R y bytes mx rt D h' k n (pc + 1) Ls st :=
  r.mv (P := fun h' => Wr h h' a j.toNatClampNeg (.ref x) ∧ VA Z h' a ty (vs.set j.toNatClampNeg (.ref x))) (st' := fun _ => st) fun X hx b _ _ hZ ho eT N => by
    obtain ⟨c, A', e, hi⟩ := A.inb hj hlt
    obtain ⟨c2, q, o⟩ := O
    cases q.symm.trans A'.1
    obtain ⟨T', h', X', e', W, s'⟩ := stR X hx hZ eT A' (j := j) (v := .ref x) hi ht (Sto.of A' o I) (g := mkF _ pc Ls (.ref x :: .int j :: .ref a :: st)) rfl rfl (hb b hd)
    exact ⟨T', h', _, X', e', ⟨W, A.set W⟩, Fr.snoc X' N hg, s' _ (Steps.refl _)⟩
theorem aaloadV {ty : FieldType} {vs : List Value} {j : Int32} (r : Rch l Z n0 R y bytes mx rt D h k n pc Ls (.int j :: .ref a :: st)) (hd : decode bytes pc = .ok (.aaload, 1)) (A : VA Z h a ty vs) (ht : ty.isReference = true) (hj : ¬ j < 0) (hv : vs[j.toNatClampNeg]? = some v) : Rch l Z n0 R y bytes mx rt D h k n (pc + 1) Ls (v :: st) := by
  obtain ⟨c, A', e, hi⟩ := A.inb hj (List.getElem?_eq_some_iff.mp hv).1
  exact aaload r hd A' ht hi (by rw [e]; simpa using hv)
end Wide
end Jvm.Own
namespace Jvm.Pilot.@@N@@
open Jvm Jvm.ClassFile Sem Op Lib Jvm.Free Jvm.Stand Jvm.LawKit Jvm.RoadKit Bundle Jvm.Pilot.@@N@@.Jvm.D

theorem own_mask32 (z : Int32) (k : Nat) (m : Int32) (hm : m.toBitVec.toNat = 2 ^ k - 1) (hk : k < 31) : ∃ n, n < 2 ^ k ∧ z &&& m = Int32.ofNat n := by
  refine ⟨z.toBitVec.toNat % 2 ^ k, Nat.mod_lt _ (Nat.two_pow_pos k), ?_⟩
  apply Int32.toBitVec_inj.mp
  apply BitVec.eq_of_toNat_eq
  have e : (z &&& m).toBitVec = z.toBitVec &&& m.toBitVec := rfl
  have e2 : (Int32.ofNat (z.toBitVec.toNat % 2 ^ k)).toBitVec = BitVec.ofNat 32 (z.toBitVec.toNat % 2 ^ k) := rfl
  rw [e, e2, BitVec.toNat_and, hm, Nat.and_two_pow_sub_one_eq_mod, BitVec.toNat_ofNat]
  have h1 : z.toBitVec.toNat % 2 ^ k < 2 ^ k := Nat.mod_lt _ (Nat.two_pow_pos k)
  have h2 : 2 ^ k < 2 ^ 32 := Nat.pow_lt_pow_right (by decide) (by omega)
  exact (Nat.mod_eq_of_lt (Nat.lt_trans h1 h2)).symm
theorem own_mask64 (z : Int64) (k : Nat) (m : Int64) (hm : m.toBitVec.toNat = 2 ^ k - 1) (hk : k < 63) : ∃ n, n < 2 ^ k ∧ z &&& m = Int64.ofNat n := by
  refine ⟨z.toBitVec.toNat % 2 ^ k, Nat.mod_lt _ (Nat.two_pow_pos k), ?_⟩
  apply Int64.toBitVec_inj.mp
  apply BitVec.eq_of_toNat_eq
  have e : (z &&& m).toBitVec = z.toBitVec &&& m.toBitVec := rfl
  have e2 : (Int64.ofNat (z.toBitVec.toNat % 2 ^ k)).toBitVec = BitVec.ofNat 64 (z.toBitVec.toNat % 2 ^ k) := rfl
  rw [e, e2, BitVec.toNat_and, hm, Nat.and_two_pow_sub_one_eq_mod, BitVec.toNat_ofNat]
  have h1 : z.toBitVec.toNat % 2 ^ k < 2 ^ k := Nat.mod_lt _ (Nat.two_pow_pos k)
  have h2 : 2 ^ k < 2 ^ 64 := Nat.pow_lt_pow_right (by decide) (by omega)
  exact (Nat.mod_eq_of_lt (Nat.lt_trans h1 h2)).symm
theorem own_nat64 {n : Nat} (h : n < 2 ^ 63) : (Int64.ofNat n).toBitVec.toNat = n := by
  have e2 : (Int64.ofNat n).toBitVec = BitVec.ofNat 64 n := rfl
  rw [e2, BitVec.toNat_ofNat, Nat.mod_eq_of_lt (by omega)]
theorem own_eq64 {a : Int64} {n : Nat} (h : a.toBitVec.toNat = n) (hn : n < 2 ^ 63) : a = Int64.ofNat n := by
  apply Int64.toBitVec_inj.mp
  apply BitVec.eq_of_toNat_eq
  rw [h, own_nat64 hn]
theorem own_small : ∀ k : Fin 256, (Own.i2cW (Int32.ofNat k.val) = Int32.ofNat k.val) ∧ ¬ ((255 : Int32) < Int32.ofNat k.val) ∧ ¬ ((255 : Int32) < nar .char (Int32.ofNat k.val)) := by decide +kernel
theorem own_c255 {z v : Int32} (e : v = Own.i2cW (z &&& (255 : Int32))) : ¬ (255 : Int32) < v := by
  obtain ⟨k, hk, q⟩ := own_mask32 z 8 255 rfl (by decide)
  have := own_small ⟨k, hk⟩
  rw [e, q, this.1]; exact this.2.1
theorem own_n255 {z v : Int32} (e : v = Own.i2cW (z &&& (255 : Int32))) : ¬ (255 : Int32) < nar .char v := by
  obtain ⟨k, hk, q⟩ := own_mask32 z 8 255 rfl (by decide)
  have := own_small ⟨k, hk⟩
  rw [e, q, this.1]; exact this.2.2
theorem own_j1 {q n : Int64} (e : n = (q &&& (17592186044415 : Int64))) : ¬ (17592186044415 : Int64) < n := by
  obtain ⟨k, hk, e2⟩ := own_mask64 q 44 17592186044415 rfl (by decide)
  rw [e, e2, Int64.lt_iff_toInt_lt, Int64.toInt_ofNat_of_lt (by omega)]
  have : (17592186044415 : Int64).toInt = 17592186044415 := rfl
  omega
theorem own_j2 {q n : Int64} (e : n = (q &&& (17592186044415 : Int64))) : ¬ n < (0 : Int64) := by
  obtain ⟨k, hk, e2⟩ := own_mask64 q 44 17592186044415 rfl (by decide)
  rw [e, e2, Int64.lt_iff_toInt_lt, Int64.toInt_ofNat_of_lt (by omega)]
  have : (0 : Int64).toInt = 0 := rfl
  omega
theorem own_j3 {p f : Int32} (e : f = (p &&& (524287 : Int32))) : f < (524288 : Int32) := by
  obtain ⟨k, hk, e2⟩ := own_mask32 p 19 524287 rfl (by decide)
  rw [e, e2, Int32.lt_iff_toInt_lt, Int32.toInt_ofNat_of_lt (by omega)]
  have : (524288 : Int32).toInt = 524288 := rfl
  omega
theorem own_g {f g : Int32} (e : g = (f &&& (1 : Int32))) : g = 0 ∨ g = 1 := by
  obtain ⟨k, hk, e2⟩ := own_mask32 f 1 1 rfl (by decide)
  have : k = 0 ∨ k = 1 := by omega
  rcases this with rfl | rfl
  · left; rw [e, e2]; rfl
  · right; rw [e, e2]; rfl
theorem own_j3b {f g : Int32} (e : g = (f &&& (1 : Int32))) : g < (524288 : Int32) := by rcases own_g e with h | h <;> (rw [h]; decide)
theorem own_g0 {f g : Int32} (e : g = (f &&& (1 : Int32))) : ¬ g < (0 : Int32) := by rcases own_g e with h | h <;> (rw [h]; decide)
theorem own_g2 {f g : Int32} (e : g = (f &&& (1 : Int32))) : g < (2 : Int32) := by rcases own_g e with h | h <;> (rw [h]; decide)
theorem own_i2l {F : Nat} (h : F < 2 ^ 19) : (Int32.ofNat F).toInt64 = Int64.ofNat F := by
  rw [← Int64.toInt_inj, Int32.toInt_toInt64, Int32.toInt_ofNat_of_lt (by omega), Int64.toInt_ofNat_of_lt (by omega)]
theorem own_shl {F : Nat} (h : F < 2 ^ 19) : (Own.lshlW (Int64.ofNat F) (44 : Int32)).toBitVec.toNat = F * 2 ^ 44 := by
  have e : (Own.lshlW (Int64.ofNat F) (44 : Int32)).toBitVec = (Int64.ofNat F).toBitVec <<< (44#64) := rfl
  rw [e, BitVec.shiftLeft_eq', BitVec.toNat_shiftLeft, own_nat64 (by omega), show (44#64).toNat = 44 from rfl, Nat.shiftLeft_eq, Nat.mod_eq_of_lt (by omega)]
theorem own_pk {F N : Nat} (hF : F < 2 ^ 19) (hN : N < 2 ^ 44) : ((Own.lshlW (Int64.ofNat F) (44 : Int32)) ||| Int64.ofNat N).toBitVec.toNat = F * 2 ^ 44 + N := by
  have e : ((Own.lshlW (Int64.ofNat F) (44 : Int32)) ||| Int64.ofNat N).toBitVec = (Own.lshlW (Int64.ofNat F) (44 : Int32)).toBitVec ||| (Int64.ofNat N).toBitVec := rfl
  rw [e, BitVec.toNat_or, own_shl hF, own_nat64 (by omega), ← Nat.shiftLeft_eq, ← Nat.shiftLeft_add_eq_or_of_lt hN]
theorem own_ref {p f : Int32} {q n y : Int64} (ef : f = (p &&& (524287 : Int32))) (en : n = (q &&& (17592186044415 : Int64))) (ey : y = ((Own.lshlW f.toInt64 (44 : Int32)) ||| n)) : y = ((f.toInt64 * (17592186044416 : Int64)) + n) := by
  obtain ⟨F, hF, e1⟩ := own_mask32 p 19 524287 rfl (by decide)
  obtain ⟨N, hN, e2⟩ := own_mask64 q 44 17592186044415 rfl (by decide)
  rw [ey, ef, en, e1, e2, own_i2l hF]
  rw [own_eq64 (own_pk hF hN) (by omega)]
  have : (17592186044416 : Int64) = Int64.ofNat (2 ^ 44) := rfl
  rw [this, ← Int64.ofNat_mul, ← Int64.ofNat_add]
theorem own_gn {f g : Int32} (e : g = (f &&& (1 : Int32))) : ∃ G, G < 2 ^ 19 ∧ g = Int32.ofNat G := by
  obtain ⟨k, hk, e2⟩ := own_mask32 f 1 1 rfl (by decide)
  exact ⟨k, by omega, by rw [e, e2]⟩
theorem own_idx {f g : Int32} {q n y : Int64} (eg : g = (f &&& (1 : Int32))) (en : n = (q &&& (17592186044415 : Int64))) (ey : y = ((Own.lshlW g.toInt64 (44 : Int32)) ||| n)) : (Own.lushrW y (44 : Int32)).toInt32 = g := by
  obtain ⟨G, hG, e1⟩ := own_gn eg
  obtain ⟨N, hN, e2⟩ := own_mask64 q 44 17592186044415 rfl (by decide)
  have hy : y.toBitVec.toNat = G * 2 ^ 44 + N := by rw [ey, en, e1, e2, own_i2l hG]; exact own_pk hG hN
  have e : (Own.lushrW y (44 : Int32)).toBitVec = y.toBitVec >>> (44#64) := rfl
  have h2 : (Own.lushrW y (44 : Int32)).toBitVec.toNat = G := by
    rw [e, BitVec.ushiftRight_eq', BitVec.toNat_ushiftRight, hy, show (44#64).toNat = 44 from rfl, Nat.shiftRight_eq_div_pow]
    omega
  rw [own_eq64 h2 (by omega), e1, ← Int32.toInt_inj, Int64.toInt_toInt32, Int64.toInt_ofNat_of_lt (by omega), Int32.toInt_ofNat_of_lt (by omega), Int.bmod_eq_of_le (by omega) (by omega)]
theorem own_num {f g : Int32} {q n y : Int64} (eg : g = (f &&& (1 : Int32))) (en : n = (q &&& (17592186044415 : Int64))) (ey : y = ((Own.lshlW g.toInt64 (44 : Int32)) ||| n)) : (y &&& (17592186044415 : Int64)) = n := by
  obtain ⟨G, hG, e1⟩ := own_gn eg
  obtain ⟨N, hN, e2⟩ := own_mask64 q 44 17592186044415 rfl (by decide)
  have hy : y.toBitVec.toNat = G * 2 ^ 44 + N := by rw [ey, en, e1, e2, own_i2l hG]; exact own_pk hG hN
  have e : (y &&& (17592186044415 : Int64)).toBitVec = y.toBitVec &&& (17592186044415 : Int64).toBitVec := rfl
  have h2 : (y &&& (17592186044415 : Int64)).toBitVec.toNat = N := by
    rw [e, BitVec.toNat_and, hy, show ((17592186044415 : Int64).toBitVec.toNat) = 2 ^ 44 - 1 from rfl, Nat.and_two_pow_sub_one_eq_mod]
    omega
  rw [own_eq64 h2 (by omega), en, e2]

theorem d3_0 : decode jdk_22_method_1_code 0 = .ok (.aload_n 0, 1) := by decide +kernel
theorem d3_1 : decode jdk_22_method_1_code 1 = .ok (.invokespecial 1, 3) := by decide +kernel
theorem d3_4 : decode jdk_22_method_1_code 4 = .ok (.return_, 1) := by decide +kernel
theorem pn_3 : plainFor (⟨"java/util/AbstractCollection", "<init>", "()V"⟩ : MethodName) = true := plainFor_of_name (by first | (simp [plainName, overriddenIn, x]; done) | decide +kernel)
theorem ef_3 (a0 : Addr) (m : MethodId) : entryFrame m #[(.ref a0)] 1 = mkF m 0 #[.val (.ref a0)] [] := by first | (simp [entryFrame, mkF, argsToLocals, Value.category, maxLocals]; done) | rfl
abbrev R3 : Room := ({ frames := 1, cells := 0, slots := 0, locals := 12 } : Room)
abbrev A3 (l : Launch) (Z : State) (n0 : Nat) (D : Own.Dyn) := Own.Rch l Z n0 R3 (⟨"java/util/AbstractCollection", "<init>", "()V"⟩ : MethodName) jdk_22_method_1_code 1 none D
set_option maxRecDepth 65536 in
set_option maxHeartbeats 40000000 in
theorem c3 (l : Launch) (Z : State) (a0 : Array Value) (hw : ∀ d ∈ tables_1, d.before a0 Z = true) (n0 : Nat) (h : Heap) (Zs : n0 ≤ h.size) (a0 : Addr)  :
    Own.Con l Z n0 (⟨"java/util/AbstractCollection", "<init>", "()V"⟩ : MethodName) jdk_22_method_1_code 1 none R3 #[(.ref a0)] h (fun v h' => v = none ∧ h = h') := by
  refine Own.Con.enter pn_3 (ef_3 a0) fun D r => ?_
  replace r : A3 l Z n0 D h 0 0 1 #[.val (.ref a0)] [(.ref a0)] := Own.aloadN r d3_0 rfl rfl
  replace r : A3 l Z n0 D h 0 0 4 #[.val (.ref a0)] [] := Own.initObj r d3_1 (hw _ (List.mem_of_getElem? (i := 20) rfl)) (hw _ (List.mem_of_getElem? (i := 21) rfl)) (hw _ (List.mem_of_getElem? (i := 22) rfl)) rfl (by decide) (W := 0) (Nat.le_of_eq rfl) (by decide)
  exact ⟨_, _, (Own.Rch.ret0 r d3_4).more (by decide) (by decide), rfl, rfl⟩
theorem d2_0 : decode jdk_39_method_1_code 0 = .ok (.aload_n 0, 1) := by decide +kernel
theorem d2_1 : decode jdk_39_method_1_code 1 = .ok (.invokespecial 1, 3) := by decide +kernel
theorem d2_4 : decode jdk_39_method_1_code 4 = .ok (.aload_n 0, 1) := by decide +kernel
theorem d2_5 : decode jdk_39_method_1_code 5 = .ok (.iconst 0, 1) := by decide +kernel
theorem d2_6 : decode jdk_39_method_1_code 6 = .ok (.putfield 7, 3) := by decide +kernel
theorem d2_9 : decode jdk_39_method_1_code 9 = .ok (.return_, 1) := by decide +kernel
theorem pd_2_0 : parseMethodDescriptor "()V" = some ⟨[], none⟩ := by decide +kernel
theorem pn_2 : plainFor (⟨"java/util/AbstractList", "<init>", "()V"⟩ : MethodName) = true := plainFor_of_name (by first | (simp [plainName, overriddenIn, x]; done) | decide +kernel)
theorem ef_2 (a0_ : Addr) (m : MethodId) : entryFrame m #[(.ref a0_)] 1 = mkF m 0 #[.val (.ref a0_)] [] := by first | (simp [entryFrame, mkF, argsToLocals, Value.category, maxLocals]; done) | rfl
abbrev R2 : Room := ({ frames := 2, cells := 0, slots := 0, locals := 24 } : Room)
abbrev A2 (l : Launch) (Z : State) (n0 : Nat) (D : Own.Dyn) := Own.Rch l Z n0 R2 (⟨"java/util/AbstractList", "<init>", "()V"⟩ : MethodName) jdk_39_method_1_code 1 none D
set_option maxRecDepth 65536 in
set_option maxHeartbeats 40000000 in
theorem c2 (l : Launch) (Z : State) (a0 : Array Value) (hw : ∀ d ∈ tables_1, d.before a0 Z = true) (n0 : Nat) (h : Heap) (Zs : n0 ≤ h.size) (a0_ : Addr) (u_modCount : Value) (u_elementData : Value) (u_size : Value) (F_modCount_a0_ : Fld Z h a0_ "java/util/AbstractList" "modCount" "I" u_modCount) (F_elementData_a0_ : Fld Z h a0_ "java/util/ArrayList" "elementData" "[Ljava/lang/Object;" u_elementData) (F_size_a0_ : Fld Z h a0_ "java/util/ArrayList" "size" "I" u_size) (X_a0_ : Exa Z h a0_ "java/util/ArrayList") (ge_a0_ : n0 ≤ a0_) :
    Own.Con l Z n0 (⟨"java/util/AbstractList", "<init>", "()V"⟩ : MethodName) jdk_39_method_1_code 1 none R2 #[(.ref a0_)] h (fun v h' => v = none ∧ Keep h h' [a0_] ∧ Exa Z h' a0_ "java/util/ArrayList" ∧ Fld Z h' a0_ "java/util/AbstractList" "modCount" "I" (.int (0 : Int32)) ∧ Fld Z h' a0_ "java/util/ArrayList" "elementData" "[Ljava/lang/Object;" u_elementData ∧ Fld Z h' a0_ "java/util/ArrayList" "size" "I" u_size) := by
  refine Own.Con.enter pn_2 (ef_2 a0_) fun D r => ?_
  have K : Keep h h [a0_] := Keep.refl _ _
  replace r : A2 l Z n0 D h 0 0 1 #[.val (.ref a0_)] [(.ref a0_)] := Own.aloadN r d2_0 rfl rfl
  obtain ⟨rv1, h2, hQ3, r⟩ := Own.callI [] r d2_1 (c3 l Z a0 hw n0 h Zs a0_) (hw _ (List.mem_of_getElem? (i := 14) rfl)) (hw _ (List.mem_of_getElem? (i := 15) rfl)) (hw _ (List.mem_of_getElem? (i := 18) rfl)) (hw _ (List.mem_of_getElem? (i := 19) rfl)) rfl (lenOf pd_2_0 rfl) rfl rfl (W := 0) (Nat.le_of_eq rfl) rfl (by decide) (by decide) (by decide) (by decide) (by decide)
  obtain ⟨rfl, rfl⟩ := hQ3
  replace r : A2 l Z n0 D h 0 0 4 #[.val (.ref a0_)] [] := r
  replace r : A2 l Z n0 D h 0 0 5 #[.val (.ref a0_)] [(.ref a0_)] := Own.aloadN r d2_4 rfl rfl
  replace r : A2 l Z n0 D h 0 0 6 #[.val (.ref a0_)] [(.int (0 : Int32)), (.ref a0_)] := Own.iconst r d2_5 rfl
  obtain ⟨h5, W4, r⟩ := Own.putfield r d2_6 (host := "") (Or.inl (hw _ (List.mem_of_getElem? (i := 23) rfl))) Via.refl F_modCount_a0_ X_a0_ (Or.inl (hw _ (List.mem_of_getElem? (i := 24) rfl))) (hw _ (List.mem_of_getElem? (i := 3) rfl)) (ty := .int) (by decide) rfl rfl ge_a0_
  replace r : A2 l Z n0 D h5 0 0 9 #[.val (.ref a0_)] [] := r
  replace F_modCount_a0_ := F_modCount_a0_.same W4
  replace F_elementData_a0_ := F_elementData_a0_.other W4 (Or.inr (slot_ne (Or.inl (hw _ (List.mem_of_getElem? (i := 27) rfl))) (Or.inl (hw _ (List.mem_of_getElem? (i := 24) rfl))) (by decide) (t := (.array (.object "java/lang/Object"))) (t' := .int) (by decide) (by decide)))
  replace F_size_a0_ := F_size_a0_.other W4 (Or.inr (slot_ne (Or.inl (hw _ (List.mem_of_getElem? (i := 60) rfl))) (Or.inl (hw _ (List.mem_of_getElem? (i := 24) rfl))) (by decide) (t := .int) (t' := .int) (by decide) (by decide)))
  replace X_a0_ := X_a0_.wr W4
  replace Zs := Nat.le_trans Zs (Nat.le_of_eq W4.size.symm)
  replace K := K.wr W4 (Or.inl (by simp))
  exact ⟨_, _, (Own.Rch.ret0 r d2_9).more (by decide) (by decide), rfl, K, X_a0_, F_modCount_a0_, F_elementData_a0_, F_size_a0_⟩
theorem d1_0 : decode jdk_38_method_2_code 0 = .ok (.aload_n 0, 1) := by decide +kernel
theorem d1_1 : decode jdk_38_method_2_code 1 = .ok (.invokespecial 1, 3) := by decide +kernel
theorem d1_4 : decode jdk_38_method_2_code 4 = .ok (.aload_n 0, 1) := by decide +kernel
theorem d1_5 : decode jdk_38_method_2_code 5 = .ok (.getstatic 39, 3) := by decide +kernel
theorem d1_8 : decode jdk_38_method_2_code 8 = .ok (.putfield 9, 3) := by decide +kernel
theorem d1_11 : decode jdk_38_method_2_code 11 = .ok (.return_, 1) := by decide +kernel
theorem pd_1_0 : parseMethodDescriptor "()V" = some ⟨[], none⟩ := by decide +kernel
theorem pn_1 : plainFor (⟨"java/util/ArrayList", "<init>", "()V"⟩ : MethodName) = true := plainFor_of_name (by first | (simp [plainName, overriddenIn, x]; done) | decide +kernel)
theorem ef_1 (a : Addr) (m : MethodId) : entryFrame m #[(.ref a)] 1 = mkF m 0 #[.val (.ref a)] [] := by first | (simp [entryFrame, mkF, argsToLocals, Value.category, maxLocals]; done) | rfl
abbrev R1 : Room := ({ frames := 3, cells := 0, slots := 0, locals := 36 } : Room)
abbrev A1 (l : Launch) (Z : State) (n0 : Nat) (D : Own.Dyn) := Own.Rch l Z n0 R1 (⟨"java/util/ArrayList", "<init>", "()V"⟩ : MethodName) jdk_38_method_2_code 1 none D
set_option maxRecDepth 65536 in
set_option maxHeartbeats 40000000 in
theorem c1 (l : Launch) (Z : State) (a0 : Array Value) (hw : ∀ d ∈ tables_1, d.before a0 Z = true) (n0 : Nat) (h : Heap) (Zs : n0 ≤ h.size) (a : Addr) (u_modCount u_elementData u_size : Value) (F_modCount_a : Fld Z h a "java/util/AbstractList" "modCount" "I" u_modCount) (F_elementData_a : Fld Z h a "java/util/ArrayList" "elementData" "[Ljava/lang/Object;" u_elementData) (F_size_a : Fld Z h a "java/util/ArrayList" "size" "I" u_size) (X_a : Exa Z h a "java/util/ArrayList") (ge_a : n0 ≤ a) (O : Old Z n0 h) (dz : Addr) (hD : Sta Z Z.heap "java/util/ArrayList" "DEFAULTCAPACITY_EMPTY_ELEMENTDATA" "[Ljava/lang/Object;" (.ref dz) ∧ Own.VA Z Z.heap dz (.object "java/lang/Object") []) :
    Own.Con l Z n0 (⟨"java/util/ArrayList", "<init>", "()V"⟩ : MethodName) jdk_38_method_2_code 1 none R1 #[(.ref a)] h (fun v h' => v = none ∧ Keep h h' [a] ∧ Exa Z h' a "java/util/ArrayList" ∧ Fld Z h' a "java/util/AbstractList" "modCount" "I" (.int 0) ∧ Fld Z h' a "java/util/ArrayList" "elementData" "[Ljava/lang/Object;" (.ref dz) ∧ Fld Z h' a "java/util/ArrayList" "size" "I" u_size) := by
  refine Own.Con.enter pn_1 (ef_1 a) fun D r => ?_
  have K : Keep h h [a] := Keep.refl _ _
  replace r : A1 l Z n0 D h 0 0 1 #[.val (.ref a)] [(.ref a)] := Own.aloadN r d1_0 rfl rfl
  obtain ⟨rv1, h2, hQ3, r⟩ := Own.callI [] r d1_1 (c2 l Z a0 hw n0 h Zs a _ _ _ F_modCount_a F_elementData_a F_size_a X_a ge_a) (hw _ (List.mem_of_getElem? (i := 8) rfl)) (hw _ (List.mem_of_getElem? (i := 9) rfl)) (hw _ (List.mem_of_getElem? (i := 12) rfl)) (hw _ (List.mem_of_getElem? (i := 13) rfl)) rfl (lenOf pd_1_0 rfl) rfl rfl (W := 0) (Nat.le_of_eq rfl) rfl (by decide) (by decide) (by decide) (by decide) (by decide)
  obtain ⟨rfl, K4, X_a, F_modCount_a, F_elementData_a, F_size_a⟩ := hQ3
  replace O := O.keep K4 (allS ge_a all0)
  replace Zs := Nat.le_trans Zs K4.1
  replace K := K.trans K4 (by simp [])
  replace r : A1 l Z n0 D h2 0 0 4 #[.val (.ref a)] [] := r
  replace r : A1 l Z n0 D h2 0 0 5 #[.val (.ref a)] [(.ref a)] := Own.aloadN r d1_4 rfl rfl
  replace r : A1 l Z n0 D h2 0 0 8 #[.val (.ref a)] [(.ref dz), (.ref a)] := Own.getstatic r d1_5 (hw _ (List.mem_of_getElem? (i := 25) rfl)) Via.refl (hD.1.ext O.2)
  obtain ⟨h6, W5, r⟩ := Own.putfield r d1_8 (host := "") (Or.inl (hw _ (List.mem_of_getElem? (i := 26) rfl))) Via.refl F_elementData_a X_a (Or.inl (hw _ (List.mem_of_getElem? (i := 27) rfl))) (hw _ (List.mem_of_getElem? (i := 3) rfl)) (ty := (.array (.object "java/lang/Object"))) (by decide) rfl rfl ge_a
  replace r : A1 l Z n0 D h6 0 0 11 #[.val (.ref a)] [] := r
  replace O := O.wr W5 ge_a
  replace X_a := X_a.wr W5
  replace F_modCount_a := F_modCount_a.other W5 (Or.inr (slot_ne (Or.inl (hw _ (List.mem_of_getElem? (i := 24) rfl))) (Or.inl (hw _ (List.mem_of_getElem? (i := 27) rfl))) (by decide) (t := .int) (t' := (.array (.object "java/lang/Object"))) (by decide) (by decide)))
  replace F_elementData_a := F_elementData_a.same W5
  replace F_size_a := F_size_a.other W5 (Or.inr (slot_ne (Or.inl (hw _ (List.mem_of_getElem? (i := 60) rfl))) (Or.inl (hw _ (List.mem_of_getElem? (i := 27) rfl))) (by decide) (t := .int) (t' := (.array (.object "java/lang/Object"))) (by decide) (by decide)))
  replace Zs := Nat.le_trans Zs (Nat.le_of_eq W5.size.symm)
  replace K := K.wr W5 (Or.inl (by simp))
  exact ⟨_, _, (Own.Rch.ret0 r d1_11).more (by decide) (by decide), rfl, K, X_a, F_modCount_a, F_elementData_a, F_size_a⟩
theorem d6_0 : decode jdk_43_method_3_code 0 = .ok (.iload_n 0, 1) := by decide +kernel
theorem d6_1 : decode jdk_43_method_3_code 1 = .ok (.sipush 255, 3) := by decide +kernel
theorem d6_4 : decode jdk_43_method_3_code 4 = .ok (.if_icmp .gt 7, 3) := by decide +kernel
theorem d6_7 : decode jdk_43_method_3_code 7 = .ok (.iconst 1, 1) := by decide +kernel
theorem d6_8 : decode jdk_43_method_3_code 8 = .ok (.goto 4, 3) := by decide +kernel
theorem d6_11 : decode jdk_43_method_3_code 11 = .ok (.iconst 0, 1) := by decide +kernel
theorem d6_12 : decode jdk_43_method_3_code 12 = .ok (.ireturn, 1) := by decide +kernel
theorem pn_6 : plainFor (⟨"java/lang/StringLatin1", "canEncode", "(C)Z"⟩ : MethodName) = true := plainFor_of_name (by first | (simp [plainName, overriddenIn, x]; done) | decide +kernel)
theorem ef_6 (p0 : Int32) (m : MethodId) : entryFrame m #[(.int p0)] 1 = mkF m 0 #[.val (.int p0)] [] := by first | (simp [entryFrame, mkF, argsToLocals, Value.category, maxLocals]; done) | rfl
abbrev R6 : Room := ({ frames := 0, cells := 0, slots := 0, locals := 0 } : Room)
abbrev A6 (l : Launch) (Z : State) (n0 : Nat) (D : Own.Dyn) := Own.Rch l Z n0 R6 (⟨"java/lang/StringLatin1", "canEncode", "(C)Z"⟩ : MethodName) jdk_43_method_3_code 1 (some .boolean) D
def S6 (p0 : Int32) (w : Int32) : Prop := ∃ m1 : Int32, m1 = (if (255 : Int32) < p0 then (0 : Int32) else (1 : Int32)) ∧ w = m1
set_option maxRecDepth 65536 in
set_option maxHeartbeats 40000000 in
theorem c6 (l : Launch) (Z : State) (a0 : Array Value) (hw : ∀ d ∈ tables_1, d.before a0 Z = true) (n0 : Nat) (h : Heap) (Zs : n0 ≤ h.size) (p0 : Int32)  :
    Own.Con l Z n0 (⟨"java/lang/StringLatin1", "canEncode", "(C)Z"⟩ : MethodName) jdk_43_method_3_code 1 (some .boolean) R6 #[(.int p0)] h (fun v h' => h = h' ∧ ∃ w : Int32, v = some (.int w) ∧ S6 p0 w) := by
  refine Own.Con.enter pn_6 (ef_6 p0) fun D r => ?_
  replace r : A6 l Z n0 D h 0 0 1 #[.val (.int p0)] [(.int p0)] := Own.iloadN r d6_0 rfl
  replace r : A6 l Z n0 D h 0 0 4 #[.val (.int p0)] [(.int (255 : Int32)), (.int p0)] := Own.sipush r d6_1 rfl
  obtain ⟨m1, e_m1, r⟩ : ∃ (m1 : Int32), m1 = (if (255 : Int32) < p0 then (0 : Int32) else (1 : Int32)) ∧ A6 l Z n0 D h 0 0 12 #[.val (.int p0)] [(.int m1)] := by
    by_cases br2 : (255 : Int32) < p0
    · skip
      replace r : A6 l Z n0 D h 0 0 11 #[.val (.int p0)] [] := Own.icmpYes r d6_4 (tlt br2).2.2.1 (by decide) (by decide)
      replace r : A6 l Z n0 D h 0 0 12 #[.val (.int p0)] [(.int (0 : Int32))] := Own.iconst r d6_11 rfl
      exact ⟨_, by rw [if_pos br2], r⟩
    · skip
      replace r : A6 l Z n0 D h 0 0 7 #[.val (.int p0)] [] := Own.icmpNo r d6_4 (flt br2).2.2.1
      replace r : A6 l Z n0 D h 0 0 8 #[.val (.int p0)] [(.int (1 : Int32))] := Own.iconst r d6_7 rfl
      replace r : A6 l Z n0 D h 0 0 12 #[.val (.int p0)] [(.int (1 : Int32))] := Own.goto r d6_8 (by decide) (by decide)
      exact ⟨_, by rw [if_neg br2], r⟩
  exact ⟨_, _, (Own.Rch.retZ r d6_12 (by rw [e_m1]; (repeat' split) <;> rfl)).more (by decide) (by decide), rfl, _, rfl, ⟨m1, e_m1, rfl⟩⟩
theorem own_can {p w : Int32} (hp : ¬ (255 : Int32) < p) (e : S6 p w) : ¬ w = 0 := by obtain ⟨m, e1, rfl⟩ := e; rw [e1, if_neg hp]; decide
theorem d7_0 : decode jdk_43_method_46_code 0 = .ok (.iconst 1, 1) := by decide +kernel
theorem d7_1 : decode jdk_43_method_46_code 1 = .ok (.newarray .byte, 2) := by decide +kernel
theorem d7_3 : decode jdk_43_method_46_code 3 = .ok (.dup, 1) := by decide +kernel
theorem d7_4 : decode jdk_43_method_46_code 4 = .ok (.iconst 0, 1) := by decide +kernel
theorem d7_5 : decode jdk_43_method_46_code 5 = .ok (.iload_n 0, 1) := by decide +kernel
theorem d7_6 : decode jdk_43_method_46_code 6 = .ok (.i2b, 1) := by decide +kernel
theorem d7_7 : decode jdk_43_method_46_code 7 = .ok (.bastore, 1) := by decide +kernel
theorem d7_8 : decode jdk_43_method_46_code 8 = .ok (.areturn, 1) := by decide +kernel
theorem pn_7 : plainFor (⟨"java/lang/StringLatin1", "toBytes", "(C)[B"⟩ : MethodName) = true := plainFor_of_name (by first | (simp [plainName, overriddenIn, x]; done) | decide +kernel)
theorem ef_7 (p0 : Int32) (m : MethodId) : entryFrame m #[(.int p0)] 1 = mkF m 0 #[.val (.int p0)] [] := by first | (simp [entryFrame, mkF, argsToLocals, Value.category, maxLocals]; done) | rfl
abbrev R7 : Room := ({ frames := 0, cells := 1, slots := 1, locals := 0 } : Room)
abbrev A7 (l : Launch) (Z : State) (n0 : Nat) (D : Own.Dyn) := Own.Rch l Z n0 R7 (⟨"java/lang/StringLatin1", "toBytes", "(C)[B"⟩ : MethodName) jdk_43_method_46_code 1 (some (.array .byte)) D
set_option maxRecDepth 65536 in
set_option maxHeartbeats 40000000 in
theorem c7 (l : Launch) (Z : State) (a0 : Array Value) (hw : ∀ d ∈ tables_1, d.before a0 Z = true) (n0 : Nat) (h : Heap) (Zs : n0 ≤ h.size) (p0 : Int32)  :
    Own.Con l Z n0 (⟨"java/lang/StringLatin1", "toBytes", "(C)[B"⟩ : MethodName) jdk_43_method_46_code 1 (some (.array .byte)) R7 #[(.int p0)] h (fun v h' => ∃ b, v = some (.ref b) ∧ h.size ≤ b ∧ Keep h h' []) := by
  refine Own.Con.enter pn_7 (ef_7 p0) fun D r => ?_
  have K : Keep h h [] := Keep.refl _ _
  replace r : A7 l Z n0 D h 0 0 1 #[.val (.int p0)] [(.int (1 : Int32))] := Own.iconst r d7_0 rfl
  obtain ⟨h1, ⟨E1, V_b1⟩, r⟩ := Own.newArr r d7_1 (hw _ (List.mem_of_getElem? (i := 42) rfl)) (by decide) (cap := 1) (by decide) (by decide) (by decide) (by decide)
  obtain ⟨b1, g1⟩ : ∃ z, z = h.size := ⟨_, rfl⟩
  rw [← g1] at V_b1 r
  have ge_b1 : n0 ≤ b1 := Nat.le_trans Zs (Nat.le_of_eq g1.symm)
  have sz_b1 : h.size ≤ b1 := Nat.le_trans K.1 (Nat.le_of_eq g1.symm)
  replace Zs := Nat.le_trans Zs E1.1
  replace K := K.ext E1
  replace r : A7 l Z n0 D h1 1 1 3 #[.val (.int p0)] [(.ref b1)] := r
  replace V_b1 : Own.VA Z h1 b1 .byte [(.int (0 : Int32))] := V_b1
  replace r : A7 l Z n0 D h1 1 1 4 #[.val (.int p0)] [(.ref b1), (.ref b1)] := Own.dup r d7_3 rfl
  replace r : A7 l Z n0 D h1 1 1 5 #[.val (.int p0)] [(.int (0 : Int32)), (.ref b1), (.ref b1)] := Own.iconst r d7_4 rfl
  replace r : A7 l Z n0 D h1 1 1 6 #[.val (.int p0)] [(.int p0), (.int (0 : Int32)), (.ref b1), (.ref b1)] := Own.iloadN r d7_5 rfl
  replace r : A7 l Z n0 D h1 1 1 7 #[.val (.int p0)] [(.int (Own.i2bW p0)), (.int (0 : Int32)), (.ref b1), (.ref b1)] := Own.i2b r d7_6
  obtain ⟨h3, ⟨W2, V_b1⟩, r⟩ := Own.bastore r d7_7 V_b1 (by decide) (Nat.le_of_ble_eq_true rfl) ge_b1
  replace r : A7 l Z n0 D h3 1 1 8 #[.val (.int p0)] [(.ref b1)] := r
  replace Zs := Nat.le_trans Zs (Nat.le_of_eq W2.size.symm)
  replace K := K.wr W2 (Or.inr sz_b1)
  replace V_b1 : Own.VA Z h3 b1 .byte [(.int (nar .byte (Own.i2bW p0)))] := V_b1
  exact ⟨_, _, (Own.Rch.retA r d7_8 rfl rfl).more (by decide) (by decide), b1, rfl, sz_b1, K⟩
theorem d8_0 : decode jdk_42_method_151_code 0 = .ok (.aload_n 0, 1) := by decide +kernel
theorem d8_1 : decode jdk_42_method_151_code 1 = .ok (.invokespecial 1, 3) := by decide +kernel
theorem d8_4 : decode jdk_42_method_151_code 4 = .ok (.aload_n 0, 1) := by decide +kernel
theorem d8_5 : decode jdk_42_method_151_code 5 = .ok (.aload_n 1, 1) := by decide +kernel
theorem d8_6 : decode jdk_42_method_151_code 6 = .ok (.putfield 9, 3) := by decide +kernel
theorem d8_9 : decode jdk_42_method_151_code 9 = .ok (.aload_n 0, 1) := by decide +kernel
theorem d8_10 : decode jdk_42_method_151_code 10 = .ok (.iload_n 2, 1) := by decide +kernel
theorem d8_11 : decode jdk_42_method_151_code 11 = .ok (.putfield 15, 3) := by decide +kernel
theorem d8_14 : decode jdk_42_method_151_code 14 = .ok (.return_, 1) := by decide +kernel
theorem pn_8 : plainFor (⟨"java/lang/String", "<init>", "([BB)V"⟩ : MethodName) = true := plainFor_of_name (by first | (simp [plainName, overriddenIn, x]; done) | decide +kernel)
theorem ef_8 (a0_ : Addr) (a1_ : Addr) (p2 : Int32) (m : MethodId) : entryFrame m #[(.ref a0_), (.ref a1_), (.int p2)] 3 = mkF m 0 #[.val (.ref a0_), .val (.ref a1_), .val (.int p2)] [] := by first | (simp [entryFrame, mkF, argsToLocals, Value.category, maxLocals]; done) | rfl
abbrev R8 : Room := ({ frames := 1, cells := 0, slots := 0, locals := 12 } : Room)
abbrev A8 (l : Launch) (Z : State) (n0 : Nat) (D : Own.Dyn) := Own.Rch l Z n0 R8 (⟨"java/lang/String", "<init>", "([BB)V"⟩ : MethodName) jdk_42_method_151_code 3 none D
set_option maxRecDepth 65536 in
set_option maxHeartbeats 40000000 in
theorem c8 (l : Launch) (Z : State) (a0 : Array Value) (hw : ∀ d ∈ tables_1, d.before a0 Z = true) (n0 : Nat) (h : Heap) (Zs : n0 ≤ h.size) (a0_ : Addr) (a1_ : Addr) (p2 : Int32) (u_value : Value) (u_coder : Value) (F_value_a0_ : Fld Z h a0_ "java/lang/String" "value" "[B" u_value) (F_coder_a0_ : Fld Z h a0_ "java/lang/String" "coder" "B" u_coder) (X_a0_ : Exa Z h a0_ "java/lang/String") (ge_a0_ : n0 ≤ a0_) (hcd : p2 = (0 : Int32)) :
    Own.Con l Z n0 (⟨"java/lang/String", "<init>", "([BB)V"⟩ : MethodName) jdk_42_method_151_code 3 none R8 #[(.ref a0_), (.ref a1_), (.int p2)] h (fun v h' => v = none ∧ Keep h h' [a0_] ∧ Exa Z h' a0_ "java/lang/String" ∧ Fld Z h' a0_ "java/lang/String" "value" "[B" (.ref a1_) ∧ Fld Z h' a0_ "java/lang/String" "coder" "B" (.int p2)) := by
  refine Own.Con.enter pn_8 (ef_8 a0_ a1_ p2) fun D r => ?_
  have K : Keep h h [a0_] := Keep.refl _ _
  replace r : A8 l Z n0 D h 0 0 1 #[.val (.ref a0_), .val (.ref a1_), .val (.int p2)] [(.ref a0_)] := Own.aloadN r d8_0 rfl rfl
  replace r : A8 l Z n0 D h 0 0 4 #[.val (.ref a0_), .val (.ref a1_), .val (.int p2)] [] := Own.initObj r d8_1 (hw _ (List.mem_of_getElem? (i := 47) rfl)) (hw _ (List.mem_of_getElem? (i := 21) rfl)) (hw _ (List.mem_of_getElem? (i := 22) rfl)) rfl (by decide) (W := 0) (Nat.le_of_eq rfl) (by decide)
  replace r : A8 l Z n0 D h 0 0 5 #[.val (.ref a0_), .val (.ref a1_), .val (.int p2)] [(.ref a0_)] := Own.aloadN r d8_4 rfl rfl
  replace r : A8 l Z n0 D h 0 0 6 #[.val (.ref a0_), .val (.ref a1_), .val (.int p2)] [(.ref a1_), (.ref a0_)] := Own.aloadN r d8_5 rfl rfl
  obtain ⟨h2, W1, r⟩ := Own.putfield r d8_6 (host := "") (Or.inl (hw _ (List.mem_of_getElem? (i := 48) rfl))) Via.refl F_value_a0_ X_a0_ (Or.inr ⟨(hw _ (List.mem_of_getElem? (i := 49) rfl)), rfl, rfl⟩) (hw _ (List.mem_of_getElem? (i := 38) rfl)) (ty := (.array .byte)) (by decide) rfl rfl ge_a0_
  replace r : A8 l Z n0 D h2 0 0 9 #[.val (.ref a0_), .val (.ref a1_), .val (.int p2)] [] := r
  replace F_value_a0_ := F_value_a0_.same W1
  replace F_coder_a0_ := F_coder_a0_.other W1 (Or.inr (slot_ne (Or.inr (hw _ (List.mem_of_getElem? (i := 51) rfl))) (Or.inr (hw _ (List.mem_of_getElem? (i := 49) rfl))) (by decide) (t := .byte) (t' := (.array .byte)) (by decide) (by decide)))
  replace X_a0_ := X_a0_.wr W1
  replace Zs := Nat.le_trans Zs (Nat.le_of_eq W1.size.symm)
  replace K := K.wr W1 (Or.inl (by simp))
  replace r : A8 l Z n0 D h2 0 0 10 #[.val (.ref a0_), .val (.ref a1_), .val (.int p2)] [(.ref a0_)] := Own.aloadN r d8_9 rfl rfl
  replace r : A8 l Z n0 D h2 0 0 11 #[.val (.ref a0_), .val (.ref a1_), .val (.int p2)] [(.int p2), (.ref a0_)] := Own.iloadN r d8_10 rfl
  obtain ⟨h4, W3, r⟩ := Own.putfield r d8_11 (host := "") (Or.inl (hw _ (List.mem_of_getElem? (i := 50) rfl))) Via.refl F_coder_a0_ X_a0_ (Or.inr ⟨(hw _ (List.mem_of_getElem? (i := 51) rfl)), rfl, rfl⟩) (hw _ (List.mem_of_getElem? (i := 38) rfl)) (ty := .byte) (by decide) (by rw [hcd]; rfl) (by rw [hcd]; rfl) ge_a0_
  replace r : A8 l Z n0 D h4 0 0 14 #[.val (.ref a0_), .val (.ref a1_), .val (.int p2)] [] := r
  replace F_value_a0_ := F_value_a0_.other W3 (Or.inr (slot_ne (Or.inr (hw _ (List.mem_of_getElem? (i := 49) rfl))) (Or.inr (hw _ (List.mem_of_getElem? (i := 51) rfl))) (by decide) (t := (.array .byte)) (t' := .byte) (by decide) (by decide)))
  replace F_coder_a0_ := F_coder_a0_.same W3
  replace X_a0_ := X_a0_.wr W3
  replace Zs := Nat.le_trans Zs (Nat.le_of_eq W3.size.symm)
  replace K := K.wr W3 (Or.inl (by simp))
  exact ⟨_, _, (Own.Rch.ret0 r d8_14).more (by decide) (by decide), rfl, K, X_a0_, F_value_a0_, F_coder_a0_⟩
theorem d5_0 : decode jdk_42_method_139_code 0 = .ok (.getstatic 38, 3) := by decide +kernel
theorem d5_3 : decode jdk_42_method_139_code 3 = .ok (.ifCond .eq 23, 3) := by decide +kernel
theorem d5_6 : decode jdk_42_method_139_code 6 = .ok (.iload_n 0, 1) := by decide +kernel
theorem d5_7 : decode jdk_42_method_139_code 7 = .ok (.invokestatic 1015, 3) := by decide +kernel
theorem d5_10 : decode jdk_42_method_139_code 10 = .ok (.ifCond .eq 16, 3) := by decide +kernel
theorem d5_13 : decode jdk_42_method_139_code 13 = .ok (.new 10, 3) := by decide +kernel
theorem d5_16 : decode jdk_42_method_139_code 16 = .ok (.dup, 1) := by decide +kernel
theorem d5_17 : decode jdk_42_method_139_code 17 = .ok (.iload_n 0, 1) := by decide +kernel
theorem d5_18 : decode jdk_42_method_139_code 18 = .ok (.invokestatic 1018, 3) := by decide +kernel
theorem d5_21 : decode jdk_42_method_139_code 21 = .ok (.iconst 0, 1) := by decide +kernel
theorem d5_22 : decode jdk_42_method_139_code 22 = .ok (.invokespecial 209, 3) := by decide +kernel
theorem d5_25 : decode jdk_42_method_139_code 25 = .ok (.areturn, 1) := by decide +kernel
theorem pd_5_0 : parseMethodDescriptor "(C)Z" = some ⟨[.char], some .boolean⟩ := by decide +kernel
theorem pd_5_1 : parseMethodDescriptor "(C)[B" = some ⟨[.char], some (.array .byte)⟩ := by decide +kernel
theorem pd_5_2 : parseMethodDescriptor "([BB)V" = some ⟨[(.array .byte), .byte], none⟩ := by decide +kernel
theorem pn_5 : plainFor (⟨"java/lang/String", "valueOf", "(C)Ljava/lang/String;"⟩ : MethodName) = true := plainFor_of_name (by first | (simp [plainName, overriddenIn, x]; done) | decide +kernel)
theorem ef_5 (p0 : Int32) (m : MethodId) : entryFrame m #[(.int p0)] 1 = mkF m 0 #[.val (.int p0)] [] := by first | (simp [entryFrame, mkF, argsToLocals, Value.category, maxLocals]; done) | rfl
abbrev R5 : Room := ({ frames := 2, cells := 2, slots := 5, locals := 27 } : Room)
abbrev A5 (l : Launch) (Z : State) (n0 : Nat) (D : Own.Dyn) := Own.Rch l Z n0 R5 (⟨"java/lang/String", "valueOf", "(C)Ljava/lang/String;"⟩ : MethodName) jdk_42_method_139_code 1 (some (.object "java/lang/String")) D
set_option maxRecDepth 65536 in
set_option maxHeartbeats 40000000 in
theorem c5 (l : Launch) (Z : State) (a0 : Array Value) (hw : ∀ d ∈ tables_1, d.before a0 Z = true) (n0 : Nat) (h : Heap) (Zs : n0 ≤ h.size) (p0 : Int32) (O : Old Z n0 h) (cs : Int32) (hC : Sta Z Z.heap "java/lang/String" "COMPACT_STRINGS" "Z" (.int cs)) (hcs : ¬ cs = 0) (hp : ¬ (255 : Int32) < p0) :
    Own.Con l Z n0 (⟨"java/lang/String", "valueOf", "(C)Ljava/lang/String;"⟩ : MethodName) jdk_42_method_139_code 1 (some (.object "java/lang/String")) R5 #[(.int p0)] h (fun v h' => ∃ b, v = some (.ref b) ∧ h.size ≤ b ∧ Keep h h' [] ∧ Exa Z h' b "java/lang/String") := by
  refine Own.Con.enter pn_5 (ef_5 p0) fun D r => ?_
  have K : Keep h h [] := Keep.refl _ _
  replace r : A5 l Z n0 D h 0 0 3 #[.val (.int p0)] [(.int cs)] := Own.getstatic r d5_0 (hw _ (List.mem_of_getElem? (i := 32) rfl)) Via.refl (hC.ext O.2)
  replace r : A5 l Z n0 D h 0 0 6 #[.val (.int p0)] [] := Own.ifNo r d5_3 ((if0 _ _).trans (feq hcs).1)
  replace r : A5 l Z n0 D h 0 0 7 #[.val (.int p0)] [(.int p0)] := Own.iloadN r d5_6 rfl
  obtain ⟨rv1, h2, hQ3, r⟩ := Own.callS [(.int p0)] r d5_7 (c6 l Z a0 hw n0 h Zs p0) (hw _ (List.mem_of_getElem? (i := 33) rfl)) (hw _ (List.mem_of_getElem? (i := 34) rfl)) (hw _ (List.mem_of_getElem? (i := 35) rfl)) (hw _ (List.mem_of_getElem? (i := 36) rfl)) (lenOf pd_5_0 rfl) rfl rfl (W := 0) (Nat.le_of_eq rfl) rfl (by decide) (by decide) (by decide) (by decide) (by decide)
  obtain ⟨rfl, y4, rfl, e_y4⟩ := hQ3
  replace r : A5 l Z n0 D h 0 0 10 #[.val (.int p0)] [(.int y4)] := r
  replace r : A5 l Z n0 D h 0 0 13 #[.val (.int p0)] [] := Own.ifNo r d5_10 ((if0 _ _).trans (feq (own_can hp e_y4)).1)
  obtain ⟨h5, ⟨E5, X_b5, D5⟩, r⟩ := Own.newObj r d5_13 (hw _ (List.mem_of_getElem? (i := 37) rfl)) (hw _ (List.mem_of_getElem? (i := 38) rfl)) (hw _ (List.mem_of_getElem? (i := 30) rfl)) (by decide) (by decide)
  obtain ⟨b5, g5⟩ : ∃ z, z = h.size := ⟨_, rfl⟩
  rw [← g5] at X_b5 D5 r
  have ge_b5 : n0 ≤ b5 := Nat.le_trans Zs (Nat.le_of_eq g5.symm)
  have sz_b5 : h.size ≤ b5 := Nat.le_trans K.1 (Nat.le_of_eq g5.symm)
  replace O := O.ext E5
  replace Zs := Nat.le_trans Zs E5.1
  replace K := K.ext E5
  replace r : A5 l Z n0 D h5 1 4 16 #[.val (.int p0)] [(.ref b5)] := r
  have F_value_b5 : Fld Z h5 b5 "java/lang/String" "value" "[B" .null := D5 (Or.inr (hw _ (List.mem_of_getElem? (i := 49) rfl))) (ty := (.array .byte)) (by decide)
  have F_coder_b5 : Fld Z h5 b5 "java/lang/String" "coder" "B" (.int (0 : Int32)) := D5 (Or.inr (hw _ (List.mem_of_getElem? (i := 51) rfl))) (ty := .byte) (by decide)
  replace r : A5 l Z n0 D h5 1 4 17 #[.val (.int p0)] [(.ref b5), (.ref b5)] := Own.dup r d5_16 rfl
  replace r : A5 l Z n0 D h5 1 4 18 #[.val (.int p0)] [(.int p0), (.ref b5), (.ref b5)] := Own.iloadN r d5_17 rfl
  obtain ⟨rv6, h7, hQ8, r⟩ := Own.callS [(.int p0)] r d5_18 (c7 l Z a0 hw n0 h5 Zs p0) (hw _ (List.mem_of_getElem? (i := 39) rfl)) (hw _ (List.mem_of_getElem? (i := 40) rfl)) (hw _ (List.mem_of_getElem? (i := 35) rfl)) (hw _ (List.mem_of_getElem? (i := 41) rfl)) (lenOf pd_5_1 rfl) rfl rfl (W := 2) (Nat.le_of_eq rfl) rfl (by decide) (by decide) (by decide) (by decide) (by decide)
  obtain ⟨b9, rfl, sz1_b9, K10⟩ := hQ8
  have ne_b5_b9 : b5 ≠ b9 := Nat.ne_of_lt (Nat.lt_of_lt_of_le X_b5.lt sz1_b9)
  replace O := O.keep K10 all0
  replace X_b5 := X_b5.keep K10
  replace F_value_b5 := F_value_b5.keep K10 (by simp)
  replace F_coder_b5 := F_coder_b5.keep K10 (by simp)
  replace Zs := Nat.le_trans Zs K10.1
  replace K := K.trans K10 (by simp)
  replace r : A5 l Z n0 D h7 2 5 21 #[.val (.int p0)] [(.ref b9), (.ref b5), (.ref b5)] := r
  replace r : A5 l Z n0 D h7 2 5 22 #[.val (.int p0)] [(.int (0 : Int32)), (.ref b9), (.ref b5), (.ref b5)] := Own.iconst r d5_21 rfl
  obtain ⟨rv11, h12, hQ13, r⟩ := Own.callI [(.ref b9), (.int (0 : Int32))] r d5_22 (c8 l Z a0 hw n0 h7 Zs b5 b9 (0 : Int32) _ _ F_value_b5 F_coder_b5 X_b5 ge_b5 rfl) (hw _ (List.mem_of_getElem? (i := 43) rfl)) (hw _ (List.mem_of_getElem? (i := 44) rfl)) (hw _ (List.mem_of_getElem? (i := 30) rfl)) (hw _ (List.mem_of_getElem? (i := 46) rfl)) rfl (lenOf pd_5_2 rfl) rfl rfl (W := 1) (Nat.le_of_eq rfl) rfl (by decide) (by decide) (by decide) (by decide) (by decide)
  obtain ⟨rfl, K14, X_b5, F_value_b5, F_coder_b5⟩ := hQ13
  replace O := O.keep K14 (allS ge_b5 all0)
  replace Zs := Nat.le_trans Zs K14.1
  replace K := K.trans K14 (by simp [sz_b5])
  replace r : A5 l Z n0 D h12 2 5 25 #[.val (.int p0)] [(.ref b5)] := r
  exact ⟨_, _, (Own.Rch.retA r d5_25 rfl rfl).more (by decide) (by decide), b5, rfl, sz_b5, K, X_b5⟩
theorem d13_0 : decode jdk_29_method_65_code 0 = .ok (.iload_n 0, 1) := by decide +kernel
theorem d13_1 : decode jdk_29_method_65_code 1 = .ok (.iload_n 1, 1) := by decide +kernel
theorem d13_2 : decode jdk_29_method_65_code 2 = .ok (.if_icmp .lt 7, 3) := by decide +kernel
theorem d13_5 : decode jdk_29_method_65_code 5 = .ok (.iload_n 0, 1) := by decide +kernel
theorem d13_6 : decode jdk_29_method_65_code 6 = .ok (.goto 4, 3) := by decide +kernel
theorem d13_9 : decode jdk_29_method_65_code 9 = .ok (.iload_n 1, 1) := by decide +kernel
theorem d13_10 : decode jdk_29_method_65_code 10 = .ok (.ireturn, 1) := by decide +kernel
theorem pn_13 : plainFor (⟨"java/lang/Math", "max", "(II)I"⟩ : MethodName) = true := Jvm.Free.JP.mathPlain rfl (by decide +kernel)
theorem ef_13 (p0 : Int32) (p1 : Int32) (m : MethodId) : entryFrame m #[(.int p0), (.int p1)] 2 = mkF m 0 #[.val (.int p0), .val (.int p1)] [] := by first | (simp [entryFrame, mkF, argsToLocals, Value.category, maxLocals]; done) | rfl
abbrev R13 : Room := ({ frames := 0, cells := 0, slots := 0, locals := 0 } : Room)
abbrev A13 (l : Launch) (Z : State) (n0 : Nat) (D : Own.Dyn) := Own.Rch l Z n0 R13 (⟨"java/lang/Math", "max", "(II)I"⟩ : MethodName) jdk_29_method_65_code 2 (some .int) D
def S13 (p0 : Int32) (p1 : Int32) (w : Int32) : Prop := ∃ m1 : Int32, m1 = (if p0 < p1 then p1 else p0) ∧ w = m1
set_option maxRecDepth 65536 in
set_option maxHeartbeats 40000000 in
theorem c13 (l : Launch) (Z : State) (a0 : Array Value) (hw : ∀ d ∈ tables_1, d.before a0 Z = true) (n0 : Nat) (h : Heap) (Zs : n0 ≤ h.size) (p0 : Int32) (p1 : Int32)  :
    Own.Con l Z n0 (⟨"java/lang/Math", "max", "(II)I"⟩ : MethodName) jdk_29_method_65_code 2 (some .int) R13 #[(.int p0), (.int p1)] h (fun v h' => h = h' ∧ ∃ w : Int32, v = some (.int w) ∧ S13 p0 p1 w) := by
  refine Own.Con.enter pn_13 (ef_13 p0 p1) fun D r => ?_
  replace r : A13 l Z n0 D h 0 0 1 #[.val (.int p0), .val (.int p1)] [(.int p0)] := Own.iloadN r d13_0 rfl
  replace r : A13 l Z n0 D h 0 0 2 #[.val (.int p0), .val (.int p1)] [(.int p1), (.int p0)] := Own.iloadN r d13_1 rfl
  obtain ⟨m1, e_m1, r⟩ : ∃ (m1 : Int32), m1 = (if p0 < p1 then p1 else p0) ∧ A13 l Z n0 D h 0 0 10 #[.val (.int p0), .val (.int p1)] [(.int m1)] := by
    by_cases br2 : p0 < p1
    · skip
      replace r : A13 l Z n0 D h 0 0 9 #[.val (.int p0), .val (.int p1)] [] := Own.icmpYes r d13_2 (tlt br2).1 (by decide) (by decide)
      replace r : A13 l Z n0 D h 0 0 10 #[.val (.int p0), .val (.int p1)] [(.int p1)] := Own.iloadN r d13_9 rfl
      exact ⟨_, by rw [if_pos br2], r⟩
    · skip
      replace r : A13 l Z n0 D h 0 0 5 #[.val (.int p0), .val (.int p1)] [] := Own.icmpNo r d13_2 (flt br2).1
      replace r : A13 l Z n0 D h 0 0 6 #[.val (.int p0), .val (.int p1)] [(.int p0)] := Own.iloadN r d13_5 rfl
      replace r : A13 l Z n0 D h 0 0 10 #[.val (.int p0), .val (.int p1)] [(.int p0)] := Own.goto r d13_6 (by decide) (by decide)
      exact ⟨_, by rw [if_neg br2], r⟩
  exact ⟨_, _, (Own.Rch.retI r d13_10).more (by decide) (by decide), rfl, _, rfl, ⟨m1, e_m1, rfl⟩⟩
theorem own_max {w : Int32} (e : S13 (10 : Int32) (1 : Int32) w) : w = (10 : Int32) := by obtain ⟨m, e1, rfl⟩ := e; rw [e1]; decide
theorem d12_0 : decode jdk_38_method_6_code 0 = .ok (.aload_n 0, 1) := by decide +kernel
theorem d12_1 : decode jdk_38_method_6_code 1 = .ok (.getfield 9, 3) := by decide +kernel
theorem d12_4 : decode jdk_38_method_6_code 4 = .ok (.arraylength, 1) := by decide +kernel
theorem d12_5 : decode jdk_38_method_6_code 5 = .ok (.istore_n 2, 1) := by decide +kernel
theorem d12_6 : decode jdk_38_method_6_code 6 = .ok (.iload_n 2, 1) := by decide +kernel
theorem d12_7 : decode jdk_38_method_6_code 7 = .ok (.ifCond .gt 13, 3) := by decide +kernel
theorem d12_10 : decode jdk_38_method_6_code 10 = .ok (.aload_n 0, 1) := by decide +kernel
theorem d12_11 : decode jdk_38_method_6_code 11 = .ok (.getfield 9, 3) := by decide +kernel
theorem d12_14 : decode jdk_38_method_6_code 14 = .ok (.getstatic 39, 3) := by decide +kernel
theorem d12_17 : decode jdk_38_method_6_code 17 = .ok (.if_acmp .eq 28, 3) := by decide +kernel
theorem d12_45 : decode jdk_38_method_6_code 45 = .ok (.aload_n 0, 1) := by decide +kernel
theorem d12_46 : decode jdk_38_method_6_code 46 = .ok (.bipush 10, 2) := by decide +kernel
theorem d12_48 : decode jdk_38_method_6_code 48 = .ok (.iload_n 1, 1) := by decide +kernel
theorem d12_49 : decode jdk_38_method_6_code 49 = .ok (.invokestatic 79, 3) := by decide +kernel
theorem d12_52 : decode jdk_38_method_6_code 52 = .ok (.anewarray 7, 3) := by decide +kernel
theorem d12_55 : decode jdk_38_method_6_code 55 = .ok (.dup_x1, 1) := by decide +kernel
theorem d12_56 : decode jdk_38_method_6_code 56 = .ok (.putfield 9, 3) := by decide +kernel
theorem d12_59 : decode jdk_38_method_6_code 59 = .ok (.areturn, 1) := by decide +kernel
theorem pd_12_0 : parseMethodDescriptor "(II)I" = some ⟨[.int, .int], some .int⟩ := by decide +kernel
theorem pn_12 : plainFor (⟨"java/util/ArrayList", "grow", "(I)[Ljava/lang/Object;"⟩ : MethodName) = true := plainFor_of_name (by first | (simp [plainName, overriddenIn, x]; done) | decide +kernel)
theorem ef_12 (a : Addr) (p1 : Int32) (m : MethodId) : entryFrame m #[(.ref a), (.int p1)] 4 = mkF m 0 #[.val (.ref a), .val (.int p1), .unset, .unset] [] := by first | (simp [entryFrame, mkF, argsToLocals, Value.category, maxLocals]; done) | rfl
abbrev R12 : Room := ({ frames := 1, cells := 1, slots := 10, locals := 14 } : Room)
abbrev A12 (l : Launch) (Z : State) (n0 : Nat) (D : Own.Dyn) := Own.Rch l Z n0 R12 (⟨"java/util/ArrayList", "grow", "(I)[Ljava/lang/Object;"⟩ : MethodName) jdk_38_method_6_code 4 (some (.array (.object "java/lang/Object"))) D
set_option maxRecDepth 65536 in
set_option maxHeartbeats 40000000 in
theorem c12 (l : Launch) (Z : State) (a0 : Array Value) (hw : ∀ d ∈ tables_1, d.before a0 Z = true) (n0 : Nat) (h : Heap) (Zs : n0 ≤ h.size) (a : Addr) (p1 : Int32) (mc : Int32) (O : Old Z n0 h) (dz : Addr) (hD : Sta Z Z.heap "java/util/ArrayList" "DEFAULTCAPACITY_EMPTY_ELEMENTDATA" "[Ljava/lang/Object;" (.ref dz) ∧ Own.VA Z Z.heap dz (.object "java/lang/Object") []) (F_modCount_a : Fld Z h a "java/util/AbstractList" "modCount" "I" (.int mc)) (F_elementData_a : Fld Z h a "java/util/ArrayList" "elementData" "[Ljava/lang/Object;" (.ref dz)) (F_size_a : Fld Z h a "java/util/ArrayList" "size" "I" (.int 0)) (X_a : Exa Z h a "java/util/ArrayList") (ge_a : n0 ≤ a) (e1 : p1 = (1 : Int32)) :
    Own.Con l Z n0 (⟨"java/util/ArrayList", "grow", "(I)[Ljava/lang/Object;"⟩ : MethodName) jdk_38_method_6_code 4 (some (.array (.object "java/lang/Object"))) R12 #[(.ref a), (.int p1)] h (fun v h' => ∃ b, v = some (.ref b) ∧ h.size ≤ b ∧ Keep h h' [a] ∧ Exa Z h' a "java/util/ArrayList" ∧ Fld Z h' a "java/util/AbstractList" "modCount" "I" (.int mc) ∧ Fld Z h' a "java/util/ArrayList" "elementData" "[Ljava/lang/Object;" (.ref b) ∧ Fld Z h' a "java/util/ArrayList" "size" "I" (.int 0) ∧ Own.VA Z h' b (.object "java/lang/Object") [.null, .null, .null, .null, .null, .null, .null, .null, .null, .null] ∧ Own.OV Z h' b "java/lang/Object") := by
  refine Own.Con.enter pn_12 (ef_12 a p1) fun D r => ?_
  subst e1
  have K : Keep h h [a] := Keep.refl _ _
  have V_dz := hD.2.ext O.2
  replace r : A12 l Z n0 D h 0 0 1 #[.val (.ref a), .val (.int (1 : Int32)), .unset, .unset] [(.ref a)] := Own.aloadN r d12_0 rfl rfl
  replace r : A12 l Z n0 D h 0 0 4 #[.val (.ref a), .val (.int (1 : Int32)), .unset, .unset] [(.ref dz)] := Own.getfield r d12_1 (host := "") (Or.inl (hw _ (List.mem_of_getElem? (i := 26) rfl))) Via.refl F_elementData_a
  replace r : A12 l Z n0 D h 0 0 5 #[.val (.ref a), .val (.int (1 : Int32)), .unset, .unset] [(.int (0 : Int32))] := Own.arrlen r d12_4 V_dz rfl
  replace r : A12 l Z n0 D h 0 0 6 #[.val (.ref a), .val (.int (1 : Int32)), .val (.int (0 : Int32)), .unset] [] := Own.istoreN r d12_5 rfl
  replace r : A12 l Z n0 D h 0 0 7 #[.val (.ref a), .val (.int (1 : Int32)), .val (.int (0 : Int32)), .unset] [(.int (0 : Int32))] := Own.iloadN r d12_6 rfl
  replace r : A12 l Z n0 D h 0 0 10 #[.val (.ref a), .val (.int (1 : Int32)), .val (.int (0 : Int32)), .unset] [] := Own.ifNo r d12_7 ((if0 _ _).trans (flt (by decide : ¬ ((0 : Int32) < (0 : Int32)))).2.2.1)
  replace r : A12 l Z n0 D h 0 0 11 #[.val (.ref a), .val (.int (1 : Int32)), .val (.int (0 : Int32)), .unset] [(.ref a)] := Own.aloadN r d12_10 rfl rfl
  replace r : A12 l Z n0 D h 0 0 14 #[.val (.ref a), .val (.int (1 : Int32)), .val (.int (0 : Int32)), .unset] [(.ref dz)] := Own.getfield r d12_11 (host := "") (Or.inl (hw _ (List.mem_of_getElem? (i := 26) rfl))) Via.refl F_elementData_a
  replace r : A12 l Z n0 D h 0 0 17 #[.val (.ref a), .val (.int (1 : Int32)), .val (.int (0 : Int32)), .unset] [(.ref dz), (.ref dz)] := Own.getstatic r d12_14 (hw _ (List.mem_of_getElem? (i := 25) rfl)) Via.refl (hD.1.ext O.2)
  replace r : A12 l Z n0 D h 0 0 45 #[.val (.ref a), .val (.int (1 : Int32)), .val (.int (0 : Int32)), .unset] [] := Own.acmp r d12_17 rfl rfl (same := true) (by simp) (by decide) rfl
  replace r : A12 l Z n0 D h 0 0 46 #[.val (.ref a), .val (.int (1 : Int32)), .val (.int (0 : Int32)), .unset] [(.ref a)] := Own.aloadN r d12_45 rfl rfl
  replace r : A12 l Z n0 D h 0 0 48 #[.val (.ref a), .val (.int (1 : Int32)), .val (.int (0 : Int32)), .unset] [(.int (10 : Int32)), (.ref a)] := Own.bipush r d12_46 rfl
  replace r : A12 l Z n0 D h 0 0 49 #[.val (.ref a), .val (.int (1 : Int32)), .val (.int (0 : Int32)), .unset] [(.int (1 : Int32)), (.int (10 : Int32)), (.ref a)] := Own.iloadN r d12_48 rfl
  obtain ⟨rv1, h2, hQ3, r⟩ := Own.callS [(.int (10 : Int32)), (.int (1 : Int32))] r d12_49 (c13 l Z a0 hw n0 h Zs (10 : Int32) (1 : Int32)) (hw _ (List.mem_of_getElem? (i := 76) rfl)) (hw _ (List.mem_of_getElem? (i := 77) rfl)) (hw _ (List.mem_of_getElem? (i := 78) rfl)) (hw _ (List.mem_of_getElem? (i := 79) rfl)) (lenOf pd_12_0 rfl) rfl rfl (W := 1) (Nat.le_of_eq rfl) rfl (by decide) (by decide) (by decide) (by decide) (by decide)
  obtain ⟨rfl, y4, rfl, e_y4⟩ := hQ3
  replace r : A12 l Z n0 D h 0 0 52 #[.val (.ref a), .val (.int (1 : Int32)), .val (.int (0 : Int32)), .unset] [(.int y4), (.ref a)] := r
  have e_max : y4 = (10 : Int32) := own_max e_y4
  subst e_max
  replace r : A12 l Z n0 D h 0 0 52 #[.val (.ref a), .val (.int (1 : Int32)), .val (.int (0 : Int32)), .unset] [(.int (10 : Int32)), (.ref a)] := r
  obtain ⟨h5, ⟨E5, V_ed, Q_ed⟩, r⟩ := Own.newRefO r d12_52 (hw _ (List.mem_of_getElem? (i := 80) rfl)) (hw _ (List.mem_of_getElem? (i := 81) rfl)) (by decide) (cap := 10) (by decide) (by decide) (by decide) (by decide)
  obtain ⟨ed, g5⟩ : ∃ z, z = h.size := ⟨_, rfl⟩
  rw [← g5] at V_ed Q_ed r
  have ge_ed : n0 ≤ ed := Nat.le_trans Zs (Nat.le_of_eq g5.symm)
  have sz_ed : h.size ≤ ed := Nat.le_trans K.1 (Nat.le_of_eq g5.symm)
  have ne_a_ed : a ≠ ed := Own.ne_lt F_modCount_a.lt g5
  replace F_modCount_a := F_modCount_a.ext E5
  replace F_elementData_a := F_elementData_a.ext E5
  replace F_size_a := F_size_a.ext E5
  replace X_a := X_a.ext E5
  replace O := O.ext E5
  replace Zs := Nat.le_trans Zs E5.1
  replace K := K.ext E5
  replace r : A12 l Z n0 D h5 1 10 55 #[.val (.ref a), .val (.int (1 : Int32)), .val (.int (0 : Int32)), .unset] [(.ref ed), (.ref a)] := r
  replace V_ed : Own.VA Z h5 ed (.object "java/lang/Object") [.null, .null, .null, .null, .null, .null, .null, .null, .null, .null] := V_ed
  replace r : A12 l Z n0 D h5 1 10 56 #[.val (.ref a), .val (.int (1 : Int32)), .val (.int (0 : Int32)), .unset] [(.ref ed), (.ref a), (.ref ed)] := Own.dupX1 r d12_55 rfl rfl
  obtain ⟨h7, W6, r⟩ := Own.putfield r d12_56 (host := "") (Or.inl (hw _ (List.mem_of_getElem? (i := 26) rfl))) Via.refl F_elementData_a X_a (Or.inl (hw _ (List.mem_of_getElem? (i := 27) rfl))) (hw _ (List.mem_of_getElem? (i := 3) rfl)) (ty := (.array (.object "java/lang/Object"))) (by decide) rfl rfl ge_a
  replace r : A12 l Z n0 D h7 1 10 59 #[.val (.ref a), .val (.int (1 : Int32)), .val (.int (0 : Int32)), .unset] [(.ref ed)] := r
  replace F_modCount_a := F_modCount_a.other W6 (Or.inr (slot_ne (Or.inl (hw _ (List.mem_of_getElem? (i := 24) rfl))) (Or.inl (hw _ (List.mem_of_getElem? (i := 27) rfl))) (by decide) (t := .int) (t' := (.array (.object "java/lang/Object"))) (by decide) (by decide)))
  replace F_elementData_a := F_elementData_a.same W6
  replace F_size_a := F_size_a.other W6 (Or.inr (slot_ne (Or.inl (hw _ (List.mem_of_getElem? (i := 60) rfl))) (Or.inl (hw _ (List.mem_of_getElem? (i := 27) rfl))) (by decide) (t := .int) (t' := (.array (.object "java/lang/Object"))) (by decide) (by decide)))
  replace X_a := X_a.wr W6
  replace O := O.wr W6 ge_a
  replace V_ed := V_ed.other W6 (Ne.symm ne_a_ed)
  replace Q_ed := Q_ed.wr W6
  replace Zs := Nat.le_trans Zs (Nat.le_of_eq W6.size.symm)
  replace K := K.wr W6 (Or.inl (by simp))
  exact ⟨_, _, (Own.Rch.retA r d12_59 rfl rfl).more (by decide) (by decide), ed, rfl, sz_ed, K, X_a, F_modCount_a, F_elementData_a, F_size_a, V_ed, Q_ed⟩
theorem d11_0 : decode jdk_38_method_7_code 0 = .ok (.aload_n 0, 1) := by decide +kernel
theorem d11_1 : decode jdk_38_method_7_code 1 = .ok (.aload_n 0, 1) := by decide +kernel
theorem d11_2 : decode jdk_38_method_7_code 2 = .ok (.getfield 48, 3) := by decide +kernel
theorem d11_5 : decode jdk_38_method_7_code 5 = .ok (.iconst 1, 1) := by decide +kernel
theorem d11_6 : decode jdk_38_method_7_code 6 = .ok (.iadd, 1) := by decide +kernel
theorem d11_7 : decode jdk_38_method_7_code 7 = .ok (.invokevirtual 69, 3) := by decide +kernel
theorem d11_10 : decode jdk_38_method_7_code 10 = .ok (.areturn, 1) := by decide +kernel
theorem pd_11_0 : parseMethodDescriptor "(I)[Ljava/lang/Object;" = some ⟨[.int], some (.array (.object "java/lang/Object"))⟩ := by decide +kernel
theorem pn_11 : plainFor (⟨"java/util/ArrayList", "grow", "()[Ljava/lang/Object;"⟩ : MethodName) = true := plainFor_of_name (by first | (simp [plainName, overriddenIn, x]; done) | decide +kernel)
theorem ef_11 (a : Addr) (m : MethodId) : entryFrame m #[(.ref a)] 1 = mkF m 0 #[.val (.ref a)] [] := by first | (simp [entryFrame, mkF, argsToLocals, Value.category, maxLocals]; done) | rfl
abbrev R11 : Room := ({ frames := 2, cells := 1, slots := 10, locals := 29 } : Room)
abbrev A11 (l : Launch) (Z : State) (n0 : Nat) (D : Own.Dyn) := Own.Rch l Z n0 R11 (⟨"java/util/ArrayList", "grow", "()[Ljava/lang/Object;"⟩ : MethodName) jdk_38_method_7_code 1 (some (.array (.object "java/lang/Object"))) D
set_option maxRecDepth 65536 in
set_option maxHeartbeats 40000000 in
theorem c11 (l : Launch) (Z : State) (a0 : Array Value) (hw : ∀ d ∈ tables_1, d.before a0 Z = true) (n0 : Nat) (h : Heap) (Zs : n0 ≤ h.size) (a : Addr) (mc : Int32) (O : Old Z n0 h) (dz : Addr) (hD : Sta Z Z.heap "java/util/ArrayList" "DEFAULTCAPACITY_EMPTY_ELEMENTDATA" "[Ljava/lang/Object;" (.ref dz) ∧ Own.VA Z Z.heap dz (.object "java/lang/Object") []) (F_modCount_a : Fld Z h a "java/util/AbstractList" "modCount" "I" (.int mc)) (F_elementData_a : Fld Z h a "java/util/ArrayList" "elementData" "[Ljava/lang/Object;" (.ref dz)) (F_size_a : Fld Z h a "java/util/ArrayList" "size" "I" (.int 0)) (X_a : Exa Z h a "java/util/ArrayList") (ge_a : n0 ≤ a) :
    Own.Con l Z n0 (⟨"java/util/ArrayList", "grow", "()[Ljava/lang/Object;"⟩ : MethodName) jdk_38_method_7_code 1 (some (.array (.object "java/lang/Object"))) R11 #[(.ref a)] h (fun v h' => ∃ b, v = some (.ref b) ∧ h.size ≤ b ∧ Keep h h' [a] ∧ Exa Z h' a "java/util/ArrayList" ∧ Fld Z h' a "java/util/AbstractList" "modCount" "I" (.int mc) ∧ Fld Z h' a "java/util/ArrayList" "elementData" "[Ljava/lang/Object;" (.ref b) ∧ Fld Z h' a "java/util/ArrayList" "size" "I" (.int 0) ∧ Own.VA Z h' b (.object "java/lang/Object") [.null, .null, .null, .null, .null, .null, .null, .null, .null, .null] ∧ Own.OV Z h' b "java/lang/Object") := by
  refine Own.Con.enter pn_11 (ef_11 a) fun D r => ?_
  have K : Keep h h [a] := Keep.refl _ _
  replace r : A11 l Z n0 D h 0 0 1 #[.val (.ref a)] [(.ref a)] := Own.aloadN r d11_0 rfl rfl
  replace r : A11 l Z n0 D h 0 0 2 #[.val (.ref a)] [(.ref a), (.ref a)] := Own.aloadN r d11_1 rfl rfl
  replace r : A11 l Z n0 D h 0 0 5 #[.val (.ref a)] [(.int (0 : Int32)), (.ref a)] := Own.getfield r d11_2 (host := "") (Or.inl (hw _ (List.mem_of_getElem? (i := 59) rfl))) Via.refl F_size_a
  replace r : A11 l Z n0 D h 0 0 6 #[.val (.ref a)] [(.int (1 : Int32)), (.int (0 : Int32)), (.ref a)] := Own.iconst r d11_5 rfl
  replace r : A11 l Z n0 D h 0 0 7 #[.val (.ref a)] [(.int (1 : Int32)), (.ref a)] := Own.iadd r d11_6
  have lt_a := X_a.lt
  obtain ⟨rv1, h2, hQ3, r⟩ := Own.callP [(.int (1 : Int32))] r d11_7 (c12 l Z a0 hw n0 h Zs a (1 : Int32) mc O dz hD F_modCount_a F_elementData_a F_size_a X_a ge_a rfl) X_a (hw _ (List.mem_of_getElem? (i := 71) rfl)) (hw _ (List.mem_of_getElem? (i := 72) rfl)) (hw _ (List.mem_of_getElem? (i := 3) rfl)) (hw _ (List.mem_of_getElem? (i := 73) rfl)) (hw _ (List.mem_of_getElem? (i := 4) rfl)) (hw _ (List.mem_of_getElem? (i := 75) rfl)) (lenOf pd_11_0 rfl) rfl rfl (W := 0) (Nat.le_of_eq rfl) rfl (by decide) (by decide) (by decide) (by decide) (by decide)
  obtain ⟨ed, rfl, sz1_ed, K4, X_a, F_modCount_a, F_elementData_a, F_size_a, V_ed, Q_ed⟩ := hQ3
  have ge_ed : n0 ≤ ed := Nat.le_trans Zs sz1_ed
  have sz_ed : h.size ≤ ed := Nat.le_trans K.1 sz1_ed
  have ne_a_ed : a ≠ ed := Nat.ne_of_lt (Nat.lt_of_lt_of_le lt_a sz1_ed)
  replace O := O.keep K4 (allS ge_a all0)
  replace Zs := Nat.le_trans Zs K4.1
  replace K := K.trans K4 (by simp [])
  replace r : A11 l Z n0 D h2 1 10 10 #[.val (.ref a)] [(.ref ed)] := r
  exact ⟨_, _, (Own.Rch.retA r d11_10 rfl rfl).more (by decide) (by decide), ed, rfl, sz_ed, K, X_a, F_modCount_a, F_elementData_a, F_size_a, V_ed, Q_ed⟩
theorem d10_0 : decode jdk_38_method_24_code 0 = .ok (.iload_n 3, 1) := by decide +kernel
theorem d10_1 : decode jdk_38_method_24_code 1 = .ok (.aload_n 2, 1) := by decide +kernel
theorem d10_2 : decode jdk_38_method_24_code 2 = .ok (.arraylength, 1) := by decide +kernel
theorem d10_3 : decode jdk_38_method_24_code 3 = .ok (.if_icmp .ne 8, 3) := by decide +kernel
theorem d10_6 : decode jdk_38_method_24_code 6 = .ok (.aload_n 0, 1) := by decide +kernel
theorem d10_7 : decode jdk_38_method_24_code 7 = .ok (.invokevirtual 129, 3) := by decide +kernel
theorem d10_10 : decode jdk_38_method_24_code 10 = .ok (.astore_n 2, 1) := by decide +kernel
theorem d10_11 : decode jdk_38_method_24_code 11 = .ok (.aload_n 2, 1) := by decide +kernel
theorem d10_12 : decode jdk_38_method_24_code 12 = .ok (.iload_n 3, 1) := by decide +kernel
theorem d10_13 : decode jdk_38_method_24_code 13 = .ok (.aload_n 1, 1) := by decide +kernel
theorem d10_14 : decode jdk_38_method_24_code 14 = .ok (.aastore, 1) := by decide +kernel
theorem d10_15 : decode jdk_38_method_24_code 15 = .ok (.aload_n 0, 1) := by decide +kernel
theorem d10_16 : decode jdk_38_method_24_code 16 = .ok (.iload_n 3, 1) := by decide +kernel
theorem d10_17 : decode jdk_38_method_24_code 17 = .ok (.iconst 1, 1) := by decide +kernel
theorem d10_18 : decode jdk_38_method_24_code 18 = .ok (.iadd, 1) := by decide +kernel
theorem d10_19 : decode jdk_38_method_24_code 19 = .ok (.putfield 48, 3) := by decide +kernel
theorem d10_22 : decode jdk_38_method_24_code 22 = .ok (.return_, 1) := by decide +kernel
theorem pd_10_0 : parseMethodDescriptor "()[Ljava/lang/Object;" = some ⟨[], some (.array (.object "java/lang/Object"))⟩ := by decide +kernel
theorem pn_10 : plainFor (⟨"java/util/ArrayList", "add", "(Ljava/lang/Object;[Ljava/lang/Object;I)V"⟩ : MethodName) = true := plainFor_of_name (by first | (simp [plainName, overriddenIn, x]; done) | decide +kernel)
theorem ef_10 (a : Addr) (x : Addr) (dz : Addr) (p3 : Int32) (m : MethodId) : entryFrame m #[(.ref a), (.ref x), (.ref dz), (.int p3)] 4 = mkF m 0 #[.val (.ref a), .val (.ref x), .val (.ref dz), .val (.int p3)] [] := by first | (simp [entryFrame, mkF, argsToLocals, Value.category, maxLocals]; done) | rfl
abbrev R10 : Room := ({ frames := 3, cells := 1, slots := 10, locals := 41 } : Room)
abbrev A10 (l : Launch) (Z : State) (n0 : Nat) (D : Own.Dyn) := Own.Rch l Z n0 R10 (⟨"java/util/ArrayList", "add", "(Ljava/lang/Object;[Ljava/lang/Object;I)V"⟩ : MethodName) jdk_38_method_24_code 4 none D
set_option maxRecDepth 65536 in
set_option maxHeartbeats 40000000 in
theorem c10 (l : Launch) (Z : State) (a0 : Array Value) (hw : ∀ d ∈ tables_1, d.before a0 Z = true) (n0 : Nat) (h : Heap) (Zs : n0 ≤ h.size) (a : Addr) (x : Addr) (dz : Addr) (p3 : Int32) (mc : Int32) (O : Old Z n0 h) (hD : Sta Z Z.heap "java/util/ArrayList" "DEFAULTCAPACITY_EMPTY_ELEMENTDATA" "[Ljava/lang/Object;" (.ref dz) ∧ Own.VA Z Z.heap dz (.object "java/lang/Object") []) (F_modCount_a : Fld Z h a "java/util/AbstractList" "modCount" "I" (.int mc)) (F_elementData_a : Fld Z h a "java/util/ArrayList" "elementData" "[Ljava/lang/Object;" (.ref dz)) (F_size_a : Fld Z h a "java/util/ArrayList" "size" "I" (.int 0)) (X_a : Exa Z h a "java/util/ArrayList") (ge_a : n0 ≤ a) (X_x : Exa Z h x "java/lang/String") (e3 : p3 = (0 : Int32)) :
    Own.Con l Z n0 (⟨"java/util/ArrayList", "add", "(Ljava/lang/Object;[Ljava/lang/Object;I)V"⟩ : MethodName) jdk_38_method_24_code 4 none R10 #[(.ref a), (.ref x), (.ref dz), (.int p3)] h (fun v h' => v = none ∧ ∃ b, h.size ≤ b ∧ Keep h h' [a] ∧ Exa Z h' a "java/util/ArrayList" ∧ Fld Z h' a "java/util/AbstractList" "modCount" "I" (.int mc) ∧ Fld Z h' a "java/util/ArrayList" "elementData" "[Ljava/lang/Object;" (.ref b) ∧ Fld Z h' a "java/util/ArrayList" "size" "I" (.int 1) ∧ Own.VA Z h' b (.object "java/lang/Object") [(.ref x), .null, .null, .null, .null, .null, .null, .null, .null, .null] ∧ Own.OV Z h' b "java/lang/Object") := by
  refine Own.Con.enter pn_10 (ef_10 a x dz p3) fun D r => ?_
  subst e3
  have K : Keep h h [a] := Keep.refl _ _
  have V_dz := hD.2.ext O.2
  replace r : A10 l Z n0 D h 0 0 1 #[.val (.ref a), .val (.ref x), .val (.ref dz), .val (.int (0 : Int32))] [(.int (0 : Int32))] := Own.iloadN r d10_0 rfl
  replace r : A10 l Z n0 D h 0 0 2 #[.val (.ref a), .val (.ref x), .val (.ref dz), .val (.int (0 : Int32))] [(.ref dz), (.int (0 : Int32))] := Own.aloadN r d10_1 rfl rfl
  replace r : A10 l Z n0 D h 0 0 3 #[.val (.ref a), .val (.ref x), .val (.ref dz), .val (.int (0 : Int32))] [(.int (0 : Int32)), (.int (0 : Int32))] := Own.arrlen r d10_2 V_dz rfl
  replace r : A10 l Z n0 D h 0 0 6 #[.val (.ref a), .val (.ref x), .val (.ref dz), .val (.int (0 : Int32))] [] := Own.icmpNo r d10_3 (teq (by decide : (0 : Int32) = (0 : Int32))).2
  replace r : A10 l Z n0 D h 0 0 7 #[.val (.ref a), .val (.ref x), .val (.ref dz), .val (.int (0 : Int32))] [(.ref a)] := Own.aloadN r d10_6 rfl rfl
  have lt_a := X_a.lt
  obtain ⟨rv1, h2, hQ3, r⟩ := Own.callP [] r d10_7 (c11 l Z a0 hw n0 h Zs a mc O dz hD F_modCount_a F_elementData_a F_size_a X_a ge_a) X_a (hw _ (List.mem_of_getElem? (i := 66) rfl)) (hw _ (List.mem_of_getElem? (i := 67) rfl)) (hw _ (List.mem_of_getElem? (i := 3) rfl)) (hw _ (List.mem_of_getElem? (i := 68) rfl)) (hw _ (List.mem_of_getElem? (i := 4) rfl)) (hw _ (List.mem_of_getElem? (i := 70) rfl)) (lenOf pd_10_0 rfl) rfl rfl (W := 0) (Nat.le_of_eq rfl) rfl (by decide) (by decide) (by decide) (by decide) (by decide)
  obtain ⟨ed, rfl, sz1_ed, K4, X_a, F_modCount_a, F_elementData_a, F_size_a, V_ed, Q_ed⟩ := hQ3
  have ge_ed : n0 ≤ ed := Nat.le_trans Zs sz1_ed
  have sz_ed : h.size ≤ ed := Nat.le_trans K.1 sz1_ed
  have ne_x_ed : x ≠ ed := Nat.ne_of_lt (Nat.lt_of_lt_of_le X_x.lt sz1_ed)
  have ne_a_ed : a ≠ ed := Nat.ne_of_lt (Nat.lt_of_lt_of_le lt_a sz1_ed)
  replace O := O.keep K4 (allS ge_a all0)
  replace X_x := X_x.keep K4
  replace Zs := Nat.le_trans Zs K4.1
  replace K := K.trans K4 (by simp [])
  replace r : A10 l Z n0 D h2 1 10 10 #[.val (.ref a), .val (.ref x), .val (.ref dz), .val (.int (0 : Int32))] [(.ref ed)] := r
  replace r : A10 l Z n0 D h2 1 10 11 #[.val (.ref a), .val (.ref x), .val (.ref ed), .val (.int (0 : Int32))] [] := Own.astoreN r d10_10 rfl rfl
  replace r : A10 l Z n0 D h2 1 10 12 #[.val (.ref a), .val (.ref x), .val (.ref ed), .val (.int (0 : Int32))] [(.ref ed)] := Own.aloadN r d10_11 rfl rfl
  replace r : A10 l Z n0 D h2 1 10 13 #[.val (.ref a), .val (.ref x), .val (.ref ed), .val (.int (0 : Int32))] [(.int (0 : Int32)), (.ref ed)] := Own.iloadN r d10_12 rfl
  replace r : A10 l Z n0 D h2 1 10 14 #[.val (.ref a), .val (.ref x), .val (.ref ed), .val (.int (0 : Int32))] [(.ref x), (.int (0 : Int32)), (.ref ed)] := Own.aloadN r d10_13 rfl rfl
  obtain ⟨h6, ⟨W5, V_ed⟩, r⟩ := Own.aastore r d10_14 V_ed rfl Q_ed (Ins.of_exa X_x (hw _ (List.mem_of_getElem? (i := 82) rfl))) (by decide) (Nat.le_of_ble_eq_true rfl) ge_ed
  replace r : A10 l Z n0 D h6 1 10 15 #[.val (.ref a), .val (.ref x), .val (.ref ed), .val (.int (0 : Int32))] [] := r
  replace O := O.wr W5 ge_ed
  replace X_x := X_x.wr W5
  replace F_modCount_a := F_modCount_a.other W5 (Or.inl ne_a_ed)
  replace F_elementData_a := F_elementData_a.other W5 (Or.inl ne_a_ed)
  replace F_size_a := F_size_a.other W5 (Or.inl ne_a_ed)
  replace X_a := X_a.wr W5
  replace Q_ed := Q_ed.wr W5
  replace Zs := Nat.le_trans Zs (Nat.le_of_eq W5.size.symm)
  replace K := K.wr W5 (Or.inr sz_ed)
  replace V_ed : Own.VA Z h6 ed (.object "java/lang/Object") [(.ref x), .null, .null, .null, .null, .null, .null, .null, .null, .null] := V_ed
  replace r : A10 l Z n0 D h6 1 10 16 #[.val (.ref a), .val (.ref x), .val (.ref ed), .val (.int (0 : Int32))] [(.ref a)] := Own.aloadN r d10_15 rfl rfl
  replace r : A10 l Z n0 D h6 1 10 17 #[.val (.ref a), .val (.ref x), .val (.ref ed), .val (.int (0 : Int32))] [(.int (0 : Int32)), (.ref a)] := Own.iloadN r d10_16 rfl
  replace r : A10 l Z n0 D h6 1 10 18 #[.val (.ref a), .val (.ref x), .val (.ref ed), .val (.int (0 : Int32))] [(.int (1 : Int32)), (.int (0 : Int32)), (.ref a)] := Own.iconst r d10_17 rfl
  replace r : A10 l Z n0 D h6 1 10 19 #[.val (.ref a), .val (.ref x), .val (.ref ed), .val (.int (0 : Int32))] [(.int (1 : Int32)), (.ref a)] := Own.iadd r d10_18
  obtain ⟨h8, W7, r⟩ := Own.putfield r d10_19 (host := "") (Or.inl (hw _ (List.mem_of_getElem? (i := 59) rfl))) Via.refl F_size_a X_a (Or.inl (hw _ (List.mem_of_getElem? (i := 60) rfl))) (hw _ (List.mem_of_getElem? (i := 3) rfl)) (ty := .int) (by decide) rfl rfl ge_a
  replace r : A10 l Z n0 D h8 1 10 22 #[.val (.ref a), .val (.ref x), .val (.ref ed), .val (.int (0 : Int32))] [] := r
  replace O := O.wr W7 ge_a
  replace X_x := X_x.wr W7
  replace F_modCount_a := F_modCount_a.other W7 (Or.inr (slot_ne (Or.inl (hw _ (List.mem_of_getElem? (i := 24) rfl))) (Or.inl (hw _ (List.mem_of_getElem? (i := 60) rfl))) (by decide) (t := .int) (t' := .int) (by decide) (by decide)))
  replace F_elementData_a := F_elementData_a.other W7 (Or.inr (slot_ne (Or.inl (hw _ (List.mem_of_getElem? (i := 27) rfl))) (Or.inl (hw _ (List.mem_of_getElem? (i := 60) rfl))) (by decide) (t := (.array (.object "java/lang/Object"))) (t' := .int) (by decide) (by decide)))
  replace F_size_a := F_size_a.same W7
  replace X_a := X_a.wr W7
  replace V_ed := V_ed.other W7 (Ne.symm ne_a_ed)
  replace Q_ed := Q_ed.wr W7
  replace Zs := Nat.le_trans Zs (Nat.le_of_eq W7.size.symm)
  replace K := K.wr W7 (Or.inl (by simp))
  exact ⟨_, _, (Own.Rch.ret0 r d10_22).more (by decide) (by decide), rfl, ed, sz_ed, K, X_a, F_modCount_a, F_elementData_a, F_size_a, V_ed, Q_ed⟩
theorem d9_0 : decode jdk_38_method_25_code 0 = .ok (.aload_n 0, 1) := by decide +kernel
theorem d9_1 : decode jdk_38_method_25_code 1 = .ok (.dup, 1) := by decide +kernel
theorem d9_2 : decode jdk_38_method_25_code 2 = .ok (.getfield 63, 3) := by decide +kernel
theorem d9_5 : decode jdk_38_method_25_code 5 = .ok (.iconst 1, 1) := by decide +kernel
theorem d9_6 : decode jdk_38_method_25_code 6 = .ok (.iadd, 1) := by decide +kernel
theorem d9_7 : decode jdk_38_method_25_code 7 = .ok (.putfield 63, 3) := by decide +kernel
theorem d9_10 : decode jdk_38_method_25_code 10 = .ok (.aload_n 0, 1) := by decide +kernel
theorem d9_11 : decode jdk_38_method_25_code 11 = .ok (.aload_n 1, 1) := by decide +kernel
theorem d9_12 : decode jdk_38_method_25_code 12 = .ok (.aload_n 0, 1) := by decide +kernel
theorem d9_13 : decode jdk_38_method_25_code 13 = .ok (.getfield 9, 3) := by decide +kernel
theorem d9_16 : decode jdk_38_method_25_code 16 = .ok (.aload_n 0, 1) := by decide +kernel
theorem d9_17 : decode jdk_38_method_25_code 17 = .ok (.getfield 48, 3) := by decide +kernel
theorem d9_20 : decode jdk_38_method_25_code 20 = .ok (.invokevirtual 131, 3) := by decide +kernel
theorem d9_23 : decode jdk_38_method_25_code 23 = .ok (.iconst 1, 1) := by decide +kernel
theorem d9_24 : decode jdk_38_method_25_code 24 = .ok (.ireturn, 1) := by decide +kernel
theorem pd_9_0 : parseMethodDescriptor "(Ljava/lang/Object;[Ljava/lang/Object;I)V" = some ⟨[(.object "java/lang/Object"), (.array (.object "java/lang/Object")), .int], none⟩ := by decide +kernel
theorem pn_9 : plainFor (⟨"java/util/ArrayList", "add", "(Ljava/lang/Object;)Z"⟩ : MethodName) = true := plainFor_of_name (by first | (simp [plainName, overriddenIn, x]; done) | decide +kernel)
theorem ef_9 (a : Addr) (x : Addr) (m : MethodId) : entryFrame m #[(.ref a), (.ref x)] 2 = mkF m 0 #[.val (.ref a), .val (.ref x)] [] := by first | (simp [entryFrame, mkF, argsToLocals, Value.category, maxLocals]; done) | rfl
abbrev R9 : Room := ({ frames := 4, cells := 1, slots := 10, locals := 56 } : Room)
abbrev A9 (l : Launch) (Z : State) (n0 : Nat) (D : Own.Dyn) := Own.Rch l Z n0 R9 (⟨"java/util/ArrayList", "add", "(Ljava/lang/Object;)Z"⟩ : MethodName) jdk_38_method_25_code 2 (some .boolean) D
set_option maxRecDepth 65536 in
set_option maxHeartbeats 40000000 in
theorem c9 (l : Launch) (Z : State) (a0 : Array Value) (hw : ∀ d ∈ tables_1, d.before a0 Z = true) (n0 : Nat) (h : Heap) (Zs : n0 ≤ h.size) (a : Addr) (x : Addr) (mc : Int32) (O : Old Z n0 h) (dz : Addr) (hD : Sta Z Z.heap "java/util/ArrayList" "DEFAULTCAPACITY_EMPTY_ELEMENTDATA" "[Ljava/lang/Object;" (.ref dz) ∧ Own.VA Z Z.heap dz (.object "java/lang/Object") []) (F_modCount_a : Fld Z h a "java/util/AbstractList" "modCount" "I" (.int mc)) (F_elementData_a : Fld Z h a "java/util/ArrayList" "elementData" "[Ljava/lang/Object;" (.ref dz)) (F_size_a : Fld Z h a "java/util/ArrayList" "size" "I" (.int 0)) (X_a : Exa Z h a "java/util/ArrayList") (ge_a : n0 ≤ a) (X_x : Exa Z h x "java/lang/String") :
    Own.Con l Z n0 (⟨"java/util/ArrayList", "add", "(Ljava/lang/Object;)Z"⟩ : MethodName) jdk_38_method_25_code 2 (some .boolean) R9 #[(.ref a), (.ref x)] h (fun v h' => v = some (.int 1) ∧ ∃ b, h.size ≤ b ∧ Keep h h' [a] ∧ Exa Z h' a "java/util/ArrayList" ∧ Fld Z h' a "java/util/AbstractList" "modCount" "I" (.int (mc + (1 : Int32))) ∧ Fld Z h' a "java/util/ArrayList" "elementData" "[Ljava/lang/Object;" (.ref b) ∧ Fld Z h' a "java/util/ArrayList" "size" "I" (.int 1) ∧ Own.VA Z h' b (.object "java/lang/Object") [(.ref x), .null, .null, .null, .null, .null, .null, .null, .null, .null] ∧ Own.OV Z h' b "java/lang/Object") := by
  refine Own.Con.enter pn_9 (ef_9 a x) fun D r => ?_
  have K : Keep h h [a] := Keep.refl _ _
  replace r : A9 l Z n0 D h 0 0 1 #[.val (.ref a), .val (.ref x)] [(.ref a)] := Own.aloadN r d9_0 rfl rfl
  replace r : A9 l Z n0 D h 0 0 2 #[.val (.ref a), .val (.ref x)] [(.ref a), (.ref a)] := Own.dup r d9_1 rfl
  replace r : A9 l Z n0 D h 0 0 5 #[.val (.ref a), .val (.ref x)] [(.int mc), (.ref a)] := Own.getfield r d9_2 (host := "") (Or.inl (hw _ (List.mem_of_getElem? (i := 57) rfl))) (Via.of (hw _ (List.mem_of_getElem? (i := 58) rfl))) F_modCount_a
  replace r : A9 l Z n0 D h 0 0 6 #[.val (.ref a), .val (.ref x)] [(.int (1 : Int32)), (.int mc), (.ref a)] := Own.iconst r d9_5 rfl
  replace r : A9 l Z n0 D h 0 0 7 #[.val (.ref a), .val (.ref x)] [(.int (mc + (1 : Int32))), (.ref a)] := Own.iadd r d9_6
  obtain ⟨h2, W1, r⟩ := Own.putfield r d9_7 (host := "") (Or.inl (hw _ (List.mem_of_getElem? (i := 57) rfl))) (Via.of (hw _ (List.mem_of_getElem? (i := 58) rfl))) F_modCount_a X_a (Or.inl (hw _ (List.mem_of_getElem? (i := 24) rfl))) (hw _ (List.mem_of_getElem? (i := 3) rfl)) (ty := .int) (by decide) rfl rfl ge_a
  replace r : A9 l Z n0 D h2 0 0 10 #[.val (.ref a), .val (.ref x)] [] := r
  replace F_modCount_a := F_modCount_a.same W1
  replace F_elementData_a := F_elementData_a.other W1 (Or.inr (slot_ne (Or.inl (hw _ (List.mem_of_getElem? (i := 27) rfl))) (Or.inl (hw _ (List.mem_of_getElem? (i := 24) rfl))) (by decide) (t := (.array (.object "java/lang/Object"))) (t' := .int) (by decide) (by decide)))
  replace F_size_a := F_size_a.other W1 (Or.inr (slot_ne (Or.inl (hw _ (List.mem_of_getElem? (i := 60) rfl))) (Or.inl (hw _ (List.mem_of_getElem? (i := 24) rfl))) (by decide) (t := .int) (t' := .int) (by decide) (by decide)))
  replace X_a := X_a.wr W1
  replace O := O.wr W1 ge_a
  replace X_x := X_x.wr W1
  replace Zs := Nat.le_trans Zs (Nat.le_of_eq W1.size.symm)
  replace K := K.wr W1 (Or.inl (by simp))
  replace r : A9 l Z n0 D h2 0 0 11 #[.val (.ref a), .val (.ref x)] [(.ref a)] := Own.aloadN r d9_10 rfl rfl
  replace r : A9 l Z n0 D h2 0 0 12 #[.val (.ref a), .val (.ref x)] [(.ref x), (.ref a)] := Own.aloadN r d9_11 rfl rfl
  replace r : A9 l Z n0 D h2 0 0 13 #[.val (.ref a), .val (.ref x)] [(.ref a), (.ref x), (.ref a)] := Own.aloadN r d9_12 rfl rfl
  replace r : A9 l Z n0 D h2 0 0 16 #[.val (.ref a), .val (.ref x)] [(.ref dz), (.ref x), (.ref a)] := Own.getfield r d9_13 (host := "") (Or.inl (hw _ (List.mem_of_getElem? (i := 26) rfl))) Via.refl F_elementData_a
  replace r : A9 l Z n0 D h2 0 0 17 #[.val (.ref a), .val (.ref x)] [(.ref a), (.ref dz), (.ref x), (.ref a)] := Own.aloadN r d9_16 rfl rfl
  replace r : A9 l Z n0 D h2 0 0 20 #[.val (.ref a), .val (.ref x)] [(.int (0 : Int32)), (.ref dz), (.ref x), (.ref a)] := Own.getfield r d9_17 (host := "") (Or.inl (hw _ (List.mem_of_getElem? (i := 59) rfl))) Via.refl F_size_a
  have lt_a := X_a.lt
  obtain ⟨rv3, h4, hQ5, r⟩ := Own.callP [(.ref x), (.ref dz), (.int (0 : Int32))] r d9_20 (c10 l Z a0 hw n0 h2 Zs a x dz (0 : Int32) (mc + (1 : Int32)) O hD F_modCount_a F_elementData_a F_size_a X_a ge_a X_x rfl) X_a (hw _ (List.mem_of_getElem? (i := 61) rfl)) (hw _ (List.mem_of_getElem? (i := 62) rfl)) (hw _ (List.mem_of_getElem? (i := 3) rfl)) (hw _ (List.mem_of_getElem? (i := 63) rfl)) (hw _ (List.mem_of_getElem? (i := 4) rfl)) (hw _ (List.mem_of_getElem? (i := 65) rfl)) (lenOf pd_9_0 rfl) rfl rfl (W := 0) (Nat.le_of_eq rfl) rfl (by decide) (by decide) (by decide) (by decide) (by decide)
  obtain ⟨rfl, ed, sz1_ed, K6, X_a, F_modCount_a, F_elementData_a, F_size_a, V_ed, Q_ed⟩ := hQ5
  have ge_ed : n0 ≤ ed := Nat.le_trans Zs sz1_ed
  have sz_ed : h.size ≤ ed := Nat.le_trans K.1 sz1_ed
  have ne_x_ed : x ≠ ed := Nat.ne_of_lt (Nat.lt_of_lt_of_le X_x.lt sz1_ed)
  have ne_a_ed : a ≠ ed := Nat.ne_of_lt (Nat.lt_of_lt_of_le lt_a sz1_ed)
  replace O := O.keep K6 (allS ge_a all0)
  replace X_x := X_x.keep K6
  replace Zs := Nat.le_trans Zs K6.1
  replace K := K.trans K6 (by simp [])
  replace r : A9 l Z n0 D h4 1 10 23 #[.val (.ref a), .val (.ref x)] [] := r
  replace r : A9 l Z n0 D h4 1 10 24 #[.val (.ref a), .val (.ref x)] [(.int (1 : Int32))] := Own.iconst r d9_23 rfl
  exact ⟨_, _, (Own.Rch.retZ r d9_24 (by decide)).more (by decide) (by decide), rfl, ed, sz_ed, K, X_a, F_modCount_a, F_elementData_a, F_size_a, V_ed, Q_ed⟩
theorem d10_0b : decode jdk_38_method_24_code 0 = .ok (.iload_n 3, 1) := by decide +kernel
theorem d10_1b : decode jdk_38_method_24_code 1 = .ok (.aload_n 2, 1) := by decide +kernel
theorem d10_2b : decode jdk_38_method_24_code 2 = .ok (.arraylength, 1) := by decide +kernel
theorem d10_3b : decode jdk_38_method_24_code 3 = .ok (.if_icmp .ne 8, 3) := by decide +kernel
theorem d10_11b : decode jdk_38_method_24_code 11 = .ok (.aload_n 2, 1) := by decide +kernel
theorem d10_12b : decode jdk_38_method_24_code 12 = .ok (.iload_n 3, 1) := by decide +kernel
theorem d10_13b : decode jdk_38_method_24_code 13 = .ok (.aload_n 1, 1) := by decide +kernel
theorem d10_14b : decode jdk_38_method_24_code 14 = .ok (.aastore, 1) := by decide +kernel
theorem d10_15b : decode jdk_38_method_24_code 15 = .ok (.aload_n 0, 1) := by decide +kernel
theorem d10_16b : decode jdk_38_method_24_code 16 = .ok (.iload_n 3, 1) := by decide +kernel
theorem d10_17b : decode jdk_38_method_24_code 17 = .ok (.iconst 1, 1) := by decide +kernel
theorem d10_18b : decode jdk_38_method_24_code 18 = .ok (.iadd, 1) := by decide +kernel
theorem d10_19b : decode jdk_38_method_24_code 19 = .ok (.putfield 48, 3) := by decide +kernel
theorem d10_22b : decode jdk_38_method_24_code 22 = .ok (.return_, 1) := by decide +kernel
theorem pn_10b : plainFor (⟨"java/util/ArrayList", "add", "(Ljava/lang/Object;[Ljava/lang/Object;I)V"⟩ : MethodName) = true := plainFor_of_name (by first | (simp [plainName, overriddenIn, x]; done) | decide +kernel)
theorem ef_10b (a : Addr) (x : Addr) (ed : Addr) (p3 : Int32) (m : MethodId) : entryFrame m #[(.ref a), (.ref x), (.ref ed), (.int p3)] 4 = mkF m 0 #[.val (.ref a), .val (.ref x), .val (.ref ed), .val (.int p3)] [] := by first | (simp [entryFrame, mkF, argsToLocals, Value.category, maxLocals]; done) | rfl
abbrev R10b : Room := ({ frames := 0, cells := 0, slots := 0, locals := 0 } : Room)
abbrev A10b (l : Launch) (Z : State) (n0 : Nat) (D : Own.Dyn) := Own.Rch l Z n0 R10b (⟨"java/util/ArrayList", "add", "(Ljava/lang/Object;[Ljava/lang/Object;I)V"⟩ : MethodName) jdk_38_method_24_code 4 none D
set_option maxRecDepth 65536 in
set_option maxHeartbeats 40000000 in
theorem c10b (l : Launch) (Z : State) (a0 : Array Value) (hw : ∀ d ∈ tables_1, d.before a0 Z = true) (n0 : Nat) (h : Heap) (Zs : n0 ≤ h.size) (a : Addr) (x : Addr) (ed : Addr) (p3 : Int32) (mc : Int32) (s1 : Addr) (F_modCount_a : Fld Z h a "java/util/AbstractList" "modCount" "I" (.int mc)) (F_elementData_a : Fld Z h a "java/util/ArrayList" "elementData" "[Ljava/lang/Object;" (.ref ed)) (F_size_a : Fld Z h a "java/util/ArrayList" "size" "I" (.int 1)) (X_a : Exa Z h a "java/util/ArrayList") (ge_a : n0 ≤ a) (X_x : Exa Z h x "java/lang/String") (V_ed : Own.VA Z h ed (.object "java/lang/Object") [(.ref s1), .null, .null, .null, .null, .null, .null, .null, .null, .null]) (Q_ed : Own.OV Z h ed "java/lang/Object") (ge_ed : n0 ≤ ed) (ne_ed_a : ed ≠ a) (e3 : p3 = (1 : Int32)) :
    Own.Con l Z n0 (⟨"java/util/ArrayList", "add", "(Ljava/lang/Object;[Ljava/lang/Object;I)V"⟩ : MethodName) jdk_38_method_24_code 4 none R10b #[(.ref a), (.ref x), (.ref ed), (.int p3)] h (fun v h' => v = none ∧ Keep h h' [a, ed] ∧ Exa Z h' a "java/util/ArrayList" ∧ Fld Z h' a "java/util/AbstractList" "modCount" "I" (.int mc) ∧ Fld Z h' a "java/util/ArrayList" "elementData" "[Ljava/lang/Object;" (.ref ed) ∧ Fld Z h' a "java/util/ArrayList" "size" "I" (.int 2) ∧ Own.VA Z h' ed (.object "java/lang/Object") [(.ref s1), (.ref x), .null, .null, .null, .null, .null, .null, .null, .null] ∧ Own.OV Z h' ed "java/lang/Object") := by
  refine Own.Con.enter pn_10b (ef_10b a x ed p3) fun D r => ?_
  subst e3
  have K : Keep h h [a, ed] := Keep.refl _ _
  replace r : A10b l Z n0 D h 0 0 1 #[.val (.ref a), .val (.ref x), .val (.ref ed), .val (.int (1 : Int32))] [(.int (1 : Int32))] := Own.iloadN r d10_0b rfl
  replace r : A10b l Z n0 D h 0 0 2 #[.val (.ref a), .val (.ref x), .val (.ref ed), .val (.int (1 : Int32))] [(.ref ed), (.int (1 : Int32))] := Own.aloadN r d10_1b rfl rfl
  replace r : A10b l Z n0 D h 0 0 3 #[.val (.ref a), .val (.ref x), .val (.ref ed), .val (.int (1 : Int32))] [(.int (10 : Int32)), (.int (1 : Int32))] := Own.arrlen r d10_2b V_ed rfl
  replace r : A10b l Z n0 D h 0 0 11 #[.val (.ref a), .val (.ref x), .val (.ref ed), .val (.int (1 : Int32))] [] := Own.icmpYes r d10_3b (feq (by decide : ¬ ((1 : Int32) = (10 : Int32)))).2 (by decide) (by decide)
  replace r : A10b l Z n0 D h 0 0 12 #[.val (.ref a), .val (.ref x), .val (.ref ed), .val (.int (1 : Int32))] [(.ref ed)] := Own.aloadN r d10_11b rfl rfl
  replace r : A10b l Z n0 D h 0 0 13 #[.val (.ref a), .val (.ref x), .val (.ref ed), .val (.int (1 : Int32))] [(.int (1 : Int32)), (.ref ed)] := Own.iloadN r d10_12b rfl
  replace r : A10b l Z n0 D h 0 0 14 #[.val (.ref a), .val (.ref x), .val (.ref ed), .val (.int (1 : Int32))] [(.ref x), (.int (1 : Int32)), (.ref ed)] := Own.aloadN r d10_13b rfl rfl
  obtain ⟨h2, ⟨W1, V_ed⟩, r⟩ := Own.aastore r d10_14b V_ed rfl Q_ed (Ins.of_exa X_x (hw _ (List.mem_of_getElem? (i := 82) rfl))) (by decide) (Nat.le_of_ble_eq_true rfl) ge_ed
  replace r : A10b l Z n0 D h2 0 0 15 #[.val (.ref a), .val (.ref x), .val (.ref ed), .val (.int (1 : Int32))] [] := r
  replace F_modCount_a := F_modCount_a.other W1 (Or.inl (Ne.symm ne_ed_a))
  replace F_elementData_a := F_elementData_a.other W1 (Or.inl (Ne.symm ne_ed_a))
  replace F_size_a := F_size_a.other W1 (Or.inl (Ne.symm ne_ed_a))
  replace X_a := X_a.wr W1
  replace X_x := X_x.wr W1
  replace Q_ed := Q_ed.wr W1
  replace Zs := Nat.le_trans Zs (Nat.le_of_eq W1.size.symm)
  replace K := K.wr W1 (Or.inl (by simp))
  replace V_ed : Own.VA Z h2 ed (.object "java/lang/Object") [(.ref s1), (.ref x), .null, .null, .null, .null, .null, .null, .null, .null] := V_ed
  replace r : A10b l Z n0 D h2 0 0 16 #[.val (.ref a), .val (.ref x), .val (.ref ed), .val (.int (1 : Int32))] [(.ref a)] := Own.aloadN r d10_15b rfl rfl
  replace r : A10b l Z n0 D h2 0 0 17 #[.val (.ref a), .val (.ref x), .val (.ref ed), .val (.int (1 : Int32))] [(.int (1 : Int32)), (.ref a)] := Own.iloadN r d10_16b rfl
  replace r : A10b l Z n0 D h2 0 0 18 #[.val (.ref a), .val (.ref x), .val (.ref ed), .val (.int (1 : Int32))] [(.int (1 : Int32)), (.int (1 : Int32)), (.ref a)] := Own.iconst r d10_17b rfl
  replace r : A10b l Z n0 D h2 0 0 19 #[.val (.ref a), .val (.ref x), .val (.ref ed), .val (.int (1 : Int32))] [(.int (2 : Int32)), (.ref a)] := Own.iadd r d10_18b
  obtain ⟨h4, W3, r⟩ := Own.putfield r d10_19b (host := "") (Or.inl (hw _ (List.mem_of_getElem? (i := 59) rfl))) Via.refl F_size_a X_a (Or.inl (hw _ (List.mem_of_getElem? (i := 60) rfl))) (hw _ (List.mem_of_getElem? (i := 3) rfl)) (ty := .int) (by decide) rfl rfl ge_a
  replace r : A10b l Z n0 D h4 0 0 22 #[.val (.ref a), .val (.ref x), .val (.ref ed), .val (.int (1 : Int32))] [] := r
  replace F_modCount_a := F_modCount_a.other W3 (Or.inr (slot_ne (Or.inl (hw _ (List.mem_of_getElem? (i := 24) rfl))) (Or.inl (hw _ (List.mem_of_getElem? (i := 60) rfl))) (by decide) (t := .int) (t' := .int) (by decide) (by decide)))
  replace F_elementData_a := F_elementData_a.other W3 (Or.inr (slot_ne (Or.inl (hw _ (List.mem_of_getElem? (i := 27) rfl))) (Or.inl (hw _ (List.mem_of_getElem? (i := 60) rfl))) (by decide) (t := (.array (.object "java/lang/Object"))) (t' := .int) (by decide) (by decide)))
  replace F_size_a := F_size_a.same W3
  replace X_a := X_a.wr W3
  replace X_x := X_x.wr W3
  replace V_ed := V_ed.other W3 ne_ed_a
  replace Q_ed := Q_ed.wr W3
  replace Zs := Nat.le_trans Zs (Nat.le_of_eq W3.size.symm)
  replace K := K.wr W3 (Or.inl (by simp))
  exact ⟨_, _, (Own.Rch.ret0 r d10_22b).more (by decide) (by decide), rfl, K, X_a, F_modCount_a, F_elementData_a, F_size_a, V_ed, Q_ed⟩
theorem d9_0b : decode jdk_38_method_25_code 0 = .ok (.aload_n 0, 1) := by decide +kernel
theorem d9_1b : decode jdk_38_method_25_code 1 = .ok (.dup, 1) := by decide +kernel
theorem d9_2b : decode jdk_38_method_25_code 2 = .ok (.getfield 63, 3) := by decide +kernel
theorem d9_5b : decode jdk_38_method_25_code 5 = .ok (.iconst 1, 1) := by decide +kernel
theorem d9_6b : decode jdk_38_method_25_code 6 = .ok (.iadd, 1) := by decide +kernel
theorem d9_7b : decode jdk_38_method_25_code 7 = .ok (.putfield 63, 3) := by decide +kernel
theorem d9_10b : decode jdk_38_method_25_code 10 = .ok (.aload_n 0, 1) := by decide +kernel
theorem d9_11b : decode jdk_38_method_25_code 11 = .ok (.aload_n 1, 1) := by decide +kernel
theorem d9_12b : decode jdk_38_method_25_code 12 = .ok (.aload_n 0, 1) := by decide +kernel
theorem d9_13b : decode jdk_38_method_25_code 13 = .ok (.getfield 9, 3) := by decide +kernel
theorem d9_16b : decode jdk_38_method_25_code 16 = .ok (.aload_n 0, 1) := by decide +kernel
theorem d9_17b : decode jdk_38_method_25_code 17 = .ok (.getfield 48, 3) := by decide +kernel
theorem d9_20b : decode jdk_38_method_25_code 20 = .ok (.invokevirtual 131, 3) := by decide +kernel
theorem d9_23b : decode jdk_38_method_25_code 23 = .ok (.iconst 1, 1) := by decide +kernel
theorem d9_24b : decode jdk_38_method_25_code 24 = .ok (.ireturn, 1) := by decide +kernel
theorem pd_9_0b : parseMethodDescriptor "(Ljava/lang/Object;[Ljava/lang/Object;I)V" = some ⟨[(.object "java/lang/Object"), (.array (.object "java/lang/Object")), .int], none⟩ := by decide +kernel
theorem pn_9b : plainFor (⟨"java/util/ArrayList", "add", "(Ljava/lang/Object;)Z"⟩ : MethodName) = true := plainFor_of_name (by first | (simp [plainName, overriddenIn, x]; done) | decide +kernel)
theorem ef_9b (a : Addr) (x : Addr) (m : MethodId) : entryFrame m #[(.ref a), (.ref x)] 2 = mkF m 0 #[.val (.ref a), .val (.ref x)] [] := by first | (simp [entryFrame, mkF, argsToLocals, Value.category, maxLocals]; done) | rfl
abbrev R9b : Room := ({ frames := 1, cells := 0, slots := 0, locals := 15 } : Room)
abbrev A9b (l : Launch) (Z : State) (n0 : Nat) (D : Own.Dyn) := Own.Rch l Z n0 R9b (⟨"java/util/ArrayList", "add", "(Ljava/lang/Object;)Z"⟩ : MethodName) jdk_38_method_25_code 2 (some .boolean) D
set_option maxRecDepth 65536 in
set_option maxHeartbeats 40000000 in
theorem c9b (l : Launch) (Z : State) (a0 : Array Value) (hw : ∀ d ∈ tables_1, d.before a0 Z = true) (n0 : Nat) (h : Heap) (Zs : n0 ≤ h.size) (a : Addr) (x : Addr) (ed : Addr) (mc : Int32) (s1 : Addr) (F_modCount_a : Fld Z h a "java/util/AbstractList" "modCount" "I" (.int mc)) (F_elementData_a : Fld Z h a "java/util/ArrayList" "elementData" "[Ljava/lang/Object;" (.ref ed)) (F_size_a : Fld Z h a "java/util/ArrayList" "size" "I" (.int 1)) (X_a : Exa Z h a "java/util/ArrayList") (ge_a : n0 ≤ a) (X_x : Exa Z h x "java/lang/String") (V_ed : Own.VA Z h ed (.object "java/lang/Object") [(.ref s1), .null, .null, .null, .null, .null, .null, .null, .null, .null]) (Q_ed : Own.OV Z h ed "java/lang/Object") (ge_ed : n0 ≤ ed) (ne_ed_a : ed ≠ a) :
    Own.Con l Z n0 (⟨"java/util/ArrayList", "add", "(Ljava/lang/Object;)Z"⟩ : MethodName) jdk_38_method_25_code 2 (some .boolean) R9b #[(.ref a), (.ref x)] h (fun v h' => v = some (.int 1) ∧ Keep h h' [a, ed] ∧ Exa Z h' a "java/util/ArrayList" ∧ Fld Z h' a "java/util/AbstractList" "modCount" "I" (.int (mc + (1 : Int32))) ∧ Fld Z h' a "java/util/ArrayList" "elementData" "[Ljava/lang/Object;" (.ref ed) ∧ Fld Z h' a "java/util/ArrayList" "size" "I" (.int 2) ∧ Own.VA Z h' ed (.object "java/lang/Object") [(.ref s1), (.ref x), .null, .null, .null, .null, .null, .null, .null, .null] ∧ Own.OV Z h' ed "java/lang/Object") := by
  refine Own.Con.enter pn_9b (ef_9b a x) fun D r => ?_
  have K : Keep h h [a, ed] := Keep.refl _ _
  replace r : A9b l Z n0 D h 0 0 1 #[.val (.ref a), .val (.ref x)] [(.ref a)] := Own.aloadN r d9_0b rfl rfl
  replace r : A9b l Z n0 D h 0 0 2 #[.val (.ref a), .val (.ref x)] [(.ref a), (.ref a)] := Own.dup r d9_1b rfl
  replace r : A9b l Z n0 D h 0 0 5 #[.val (.ref a), .val (.ref x)] [(.int mc), (.ref a)] := Own.getfield r d9_2b (host := "") (Or.inl (hw _ (List.mem_of_getElem? (i := 57) rfl))) (Via.of (hw _ (List.mem_of_getElem? (i := 58) rfl))) F_modCount_a
  replace r : A9b l Z n0 D h 0 0 6 #[.val (.ref a), .val (.ref x)] [(.int (1 : Int32)), (.int mc), (.ref a)] := Own.iconst r d9_5b rfl
  replace r : A9b l Z n0 D h 0 0 7 #[.val (.ref a), .val (.ref x)] [(.int (mc + (1 : Int32))), (.ref a)] := Own.iadd r d9_6b
  obtain ⟨h2, W1, r⟩ := Own.putfield r d9_7b (host := "") (Or.inl (hw _ (List.mem_of_getElem? (i := 57) rfl))) (Via.of (hw _ (List.mem_of_getElem? (i := 58) rfl))) F_modCount_a X_a (Or.inl (hw _ (List.mem_of_getElem? (i := 24) rfl))) (hw _ (List.mem_of_getElem? (i := 3) rfl)) (ty := .int) (by decide) rfl rfl ge_a
  replace r : A9b l Z n0 D h2 0 0 10 #[.val (.ref a), .val (.ref x)] [] := r
  replace F_modCount_a := F_modCount_a.same W1
  replace F_elementData_a := F_elementData_a.other W1 (Or.inr (slot_ne (Or.inl (hw _ (List.mem_of_getElem? (i := 27) rfl))) (Or.inl (hw _ (List.mem_of_getElem? (i := 24) rfl))) (by decide) (t := (.array (.object "java/lang/Object"))) (t' := .int) (by decide) (by decide)))
  replace F_size_a := F_size_a.other W1 (Or.inr (slot_ne (Or.inl (hw _ (List.mem_of_getElem? (i := 60) rfl))) (Or.inl (hw _ (List.mem_of_getElem? (i := 24) rfl))) (by decide) (t := .int) (t' := .int) (by decide) (by decide)))
  replace X_a := X_a.wr W1
  replace X_x := X_x.wr W1
  replace V_ed := V_ed.other W1 ne_ed_a
  replace Q_ed := Q_ed.wr W1
  replace Zs := Nat.le_trans Zs (Nat.le_of_eq W1.size.symm)
  replace K := K.wr W1 (Or.inl (by simp))
  replace r : A9b l Z n0 D h2 0 0 11 #[.val (.ref a), .val (.ref x)] [(.ref a)] := Own.aloadN r d9_10b rfl rfl
  replace r : A9b l Z n0 D h2 0 0 12 #[.val (.ref a), .val (.ref x)] [(.ref x), (.ref a)] := Own.aloadN r d9_11b rfl rfl
  replace r : A9b l Z n0 D h2 0 0 13 #[.val (.ref a), .val (.ref x)] [(.ref a), (.ref x), (.ref a)] := Own.aloadN r d9_12b rfl rfl
  replace r : A9b l Z n0 D h2 0 0 16 #[.val (.ref a), .val (.ref x)] [(.ref ed), (.ref x), (.ref a)] := Own.getfield r d9_13b (host := "") (Or.inl (hw _ (List.mem_of_getElem? (i := 26) rfl))) Via.refl F_elementData_a
  replace r : A9b l Z n0 D h2 0 0 17 #[.val (.ref a), .val (.ref x)] [(.ref a), (.ref ed), (.ref x), (.ref a)] := Own.aloadN r d9_16b rfl rfl
  replace r : A9b l Z n0 D h2 0 0 20 #[.val (.ref a), .val (.ref x)] [(.int (1 : Int32)), (.ref ed), (.ref x), (.ref a)] := Own.getfield r d9_17b (host := "") (Or.inl (hw _ (List.mem_of_getElem? (i := 59) rfl))) Via.refl F_size_a
  obtain ⟨rv3, h4, hQ5, r⟩ := Own.callP [(.ref x), (.ref ed), (.int (1 : Int32))] r d9_20b (c10b l Z a0 hw n0 h2 Zs a x ed (1 : Int32) (mc + (1 : Int32)) s1 F_modCount_a F_elementData_a F_size_a X_a ge_a X_x V_ed Q_ed ge_ed ne_ed_a rfl) X_a (hw _ (List.mem_of_getElem? (i := 61) rfl)) (hw _ (List.mem_of_getElem? (i := 62) rfl)) (hw _ (List.mem_of_getElem? (i := 3) rfl)) (hw _ (List.mem_of_getElem? (i := 63) rfl)) (hw _ (List.mem_of_getElem? (i := 4) rfl)) (hw _ (List.mem_of_getElem? (i := 65) rfl)) (lenOf pd_9_0b rfl) rfl rfl (W := 0) (Nat.le_of_eq rfl) rfl (by decide) (by decide) (by decide) (by decide) (by decide)
  obtain ⟨rfl, K6, X_a, F_modCount_a, F_elementData_a, F_size_a, V_ed, Q_ed⟩ := hQ5
  replace X_x := X_x.keep K6
  replace Zs := Nat.le_trans Zs K6.1
  replace K := K.trans K6 (by simp [])
  replace r : A9b l Z n0 D h4 0 0 23 #[.val (.ref a), .val (.ref x)] [] := r
  replace r : A9b l Z n0 D h4 0 0 24 #[.val (.ref a), .val (.ref x)] [(.int (1 : Int32))] := Own.iconst r d9_23b rfl
  exact ⟨_, _, (Own.Rch.retZ r d9_24b (by decide)).more (by decide) (by decide), rfl, K, X_a, F_modCount_a, F_elementData_a, F_size_a, V_ed, Q_ed⟩
theorem d17_0 : decode jdk_52_method_21_code 0 = .ok (.iconst 0, 1) := by decide +kernel
theorem d17_1 : decode jdk_52_method_21_code 1 = .ok (.istore 5, 2) := by decide +kernel
theorem d17_3 : decode jdk_52_method_21_code 3 = .ok (.iload 5, 2) := by decide +kernel
theorem d17_5 : decode jdk_52_method_21_code 5 = .ok (.iload 4, 2) := by decide +kernel
theorem d17_7 : decode jdk_52_method_21_code 7 = .ok (.if_icmp .ge 37, 3) := by decide +kernel
theorem d17_10 : decode jdk_52_method_21_code 10 = .ok (.aload_n 0, 1) := by decide +kernel
theorem d17_11 : decode jdk_52_method_21_code 11 = .ok (.iload_n 1, 1) := by decide +kernel
theorem d17_12 : decode jdk_52_method_21_code 12 = .ok (.caload, 1) := by decide +kernel
theorem d17_13 : decode jdk_52_method_21_code 13 = .ok (.istore 6, 2) := by decide +kernel
theorem d17_15 : decode jdk_52_method_21_code 15 = .ok (.iload 6, 2) := by decide +kernel
theorem d17_17 : decode jdk_52_method_21_code 17 = .ok (.sipush 255, 3) := by decide +kernel
theorem d17_20 : decode jdk_52_method_21_code 20 = .ok (.if_icmp .le 6, 3) := by decide +kernel
theorem d17_26 : decode jdk_52_method_21_code 26 = .ok (.aload_n 2, 1) := by decide +kernel
theorem d17_27 : decode jdk_52_method_21_code 27 = .ok (.iload_n 3, 1) := by decide +kernel
theorem d17_28 : decode jdk_52_method_21_code 28 = .ok (.iload 6, 2) := by decide +kernel
theorem d17_30 : decode jdk_52_method_21_code 30 = .ok (.i2b, 1) := by decide +kernel
theorem d17_31 : decode jdk_52_method_21_code 31 = .ok (.bastore, 1) := by decide +kernel
theorem d17_32 : decode jdk_52_method_21_code 32 = .ok (.iinc 1 1, 3) := by decide +kernel
theorem d17_35 : decode jdk_52_method_21_code 35 = .ok (.iinc 3 1, 3) := by decide +kernel
theorem d17_38 : decode jdk_52_method_21_code 38 = .ok (.iinc 5 1, 3) := by decide +kernel
theorem d17_41 : decode jdk_52_method_21_code 41 = .ok (.goto (-38), 3) := by decide +kernel
theorem d17_44 : decode jdk_52_method_21_code 44 = .ok (.iload 4, 2) := by decide +kernel
theorem d17_46 : decode jdk_52_method_21_code 46 = .ok (.ireturn, 1) := by decide +kernel
theorem pn_17 : plainFor (⟨"java/lang/StringUTF16", "compress", "([CI[BII)I"⟩ : MethodName) = true := plainFor_of_name (by first | (simp [plainName, overriddenIn, x]; done) | decide +kernel)
theorem ef_17 (ca : Addr) (p1 : Int32) (ba : Addr) (p3 : Int32) (p4 : Int32) (m : MethodId) : entryFrame m #[(.ref ca), (.int p1), (.ref ba), (.int p3), (.int p4)] 7 = mkF m 0 #[.val (.ref ca), .val (.int p1), .val (.ref ba), .val (.int p3), .val (.int p4), .unset, .unset] [] := by first | (simp [entryFrame, mkF, argsToLocals, Value.category, maxLocals]; done) | rfl
abbrev R17 : Room := ({ frames := 0, cells := 0, slots := 0, locals := 0 } : Room)
abbrev A17 (l : Launch) (Z : State) (n0 : Nat) (D : Own.Dyn) := Own.Rch l Z n0 R17 (⟨"java/lang/StringUTF16", "compress", "([CI[BII)I"⟩ : MethodName) jdk_52_method_21_code 7 (some .int) D
set_option maxRecDepth 65536 in
set_option maxHeartbeats 40000000 in
theorem c17 (l : Launch) (Z : State) (a0 : Array Value) (hw : ∀ d ∈ tables_1, d.before a0 Z = true) (n0 : Nat) (h : Heap) (Zs : n0 ≤ h.size) (ca : Addr) (p1 : Int32) (ba : Addr) (p3 : Int32) (p4 : Int32) (c0 c1 : Int32) (V_ca : Own.VA Z h ca .char [(.int c0), (.int c1)]) (V_ba : Own.VA Z h ba .byte [(.int 0), (.int 0)]) (ge_ba : n0 ≤ ba) (ne_ca_ba : ca ≠ ba) (e1 : p1 = (0 : Int32)) (e3 : p3 = (0 : Int32)) (e4 : p4 = (2 : Int32)) (k0 : ¬ (255 : Int32) < c0) (k1 : ¬ (255 : Int32) < c1) :
    Own.Con l Z n0 (⟨"java/lang/StringUTF16", "compress", "([CI[BII)I"⟩ : MethodName) jdk_52_method_21_code 7 (some .int) R17 #[(.ref ca), (.int p1), (.ref ba), (.int p3), (.int p4)] h (fun v h' => v = some (.int 2) ∧ Keep h h' [ba] ∧ ∃ x y, Own.VA Z h' ba .byte [x, y]) := by
  refine Own.Con.enter pn_17 (ef_17 ca p1 ba p3 p4) fun D r => ?_
  subst e1
  subst e3
  subst e4
  have K : Keep h h [ba] := Keep.refl _ _
  replace r : A17 l Z n0 D h 0 0 1 #[.val (.ref ca), .val (.int (0 : Int32)), .val (.ref ba), .val (.int (0 : Int32)), .val (.int (2 : Int32)), .unset, .unset] [(.int (0 : Int32))] := Own.iconst r d17_0 rfl
  replace r : A17 l Z n0 D h 0 0 3 #[.val (.ref ca), .val (.int (0 : Int32)), .val (.ref ba), .val (.int (0 : Int32)), .val (.int (2 : Int32)), .val (.int (0 : Int32)), .unset] [] := Own.istore r d17_1 rfl
  replace r : A17 l Z n0 D h 0 0 5 #[.val (.ref ca), .val (.int (0 : Int32)), .val (.ref ba), .val (.int (0 : Int32)), .val (.int (2 : Int32)), .val (.int (0 : Int32)), .unset] [(.int (0 : Int32))] := Own.iload r d17_3 rfl
  replace r : A17 l Z n0 D h 0 0 7 #[.val (.ref ca), .val (.int (0 : Int32)), .val (.ref ba), .val (.int (0 : Int32)), .val (.int (2 : Int32)), .val (.int (0 : Int32)), .unset] [(.int (2 : Int32)), (.int (0 : Int32))] := Own.iload r d17_5 rfl
  replace r : A17 l Z n0 D h 0 0 10 #[.val (.ref ca), .val (.int (0 : Int32)), .val (.ref ba), .val (.int (0 : Int32)), .val (.int (2 : Int32)), .val (.int (0 : Int32)), .unset] [] := Own.icmpNo r d17_7 (tlt (by decide : (0 : Int32) < (2 : Int32))).2.1
  replace r : A17 l Z n0 D h 0 0 11 #[.val (.ref ca), .val (.int (0 : Int32)), .val (.ref ba), .val (.int (0 : Int32)), .val (.int (2 : Int32)), .val (.int (0 : Int32)), .unset] [(.ref ca)] := Own.aloadN r d17_10 rfl rfl
  replace r : A17 l Z n0 D h 0 0 12 #[.val (.ref ca), .val (.int (0 : Int32)), .val (.ref ba), .val (.int (0 : Int32)), .val (.int (2 : Int32)), .val (.int (0 : Int32)), .unset] [(.int (0 : Int32)), (.ref ca)] := Own.iloadN r d17_11 rfl
  replace r : A17 l Z n0 D h 0 0 13 #[.val (.ref ca), .val (.int (0 : Int32)), .val (.ref ba), .val (.int (0 : Int32)), .val (.int (2 : Int32)), .val (.int (0 : Int32)), .unset] [(.int c0)] := Own.caload r d17_12 V_ca (by decide) rfl
  replace r : A17 l Z n0 D h 0 0 15 #[.val (.ref ca), .val (.int (0 : Int32)), .val (.ref ba), .val (.int (0 : Int32)), .val (.int (2 : Int32)), .val (.int (0 : Int32)), .val (.int c0)] [] := Own.istore r d17_13 rfl
  replace r : A17 l Z n0 D h 0 0 17 #[.val (.ref ca), .val (.int (0 : Int32)), .val (.ref ba), .val (.int (0 : Int32)), .val (.int (2 : Int32)), .val (.int (0 : Int32)), .val (.int c0)] [(.int c0)] := Own.iload r d17_15 rfl
  replace r : A17 l Z n0 D h 0 0 20 #[.val (.ref ca), .val (.int (0 : Int32)), .val (.ref ba), .val (.int (0 : Int32)), .val (.int (2 : Int32)), .val (.int (0 : Int32)), .val (.int c0)] [(.int (255 : Int32)), (.int c0)] := Own.sipush r d17_17 rfl
  replace r : A17 l Z n0 D h 0 0 26 #[.val (.ref ca), .val (.int (0 : Int32)), .val (.ref ba), .val (.int (0 : Int32)), .val (.int (2 : Int32)), .val (.int (0 : Int32)), .val (.int c0)] [] := Own.icmpYes r d17_20 (flt k0).2.2.2 (by decide) (by decide)
  replace r : A17 l Z n0 D h 0 0 27 #[.val (.ref ca), .val (.int (0 : Int32)), .val (.ref ba), .val (.int (0 : Int32)), .val (.int (2 : Int32)), .val (.int (0 : Int32)), .val (.int c0)] [(.ref ba)] := Own.aloadN r d17_26 rfl rfl
  replace r : A17 l Z n0 D h 0 0 28 #[.val (.ref ca), .val (.int (0 : Int32)), .val (.ref ba), .val (.int (0 : Int32)), .val (.int (2 : Int32)), .val (.int (0 : Int32)), .val (.int c0)] [(.int (0 : Int32)), (.ref ba)] := Own.iloadN r d17_27 rfl
  replace r : A17 l Z n0 D h 0 0 30 #[.val (.ref ca), .val (.int (0 : Int32)), .val (.ref ba), .val (.int (0 : Int32)), .val (.int (2 : Int32)), .val (.int (0 : Int32)), .val (.int c0)] [(.int c0), (.int (0 : Int32)), (.ref ba)] := Own.iload r d17_28 rfl
  replace r : A17 l Z n0 D h 0 0 31 #[.val (.ref ca), .val (.int (0 : Int32)), .val (.ref ba), .val (.int (0 : Int32)), .val (.int (2 : Int32)), .val (.int (0 : Int32)), .val (.int c0)] [(.int (Own.i2bW c0)), (.int (0 : Int32)), (.ref ba)] := Own.i2b r d17_30
  obtain ⟨h2, ⟨W1, V_ba⟩, r⟩ := Own.bastore r d17_31 V_ba (by decide) (Nat.le_of_ble_eq_true rfl) ge_ba
  replace r : A17 l Z n0 D h2 0 0 32 #[.val (.ref ca), .val (.int (0 : Int32)), .val (.ref ba), .val (.int (0 : Int32)), .val (.int (2 : Int32)), .val (.int (0 : Int32)), .val (.int c0)] [] := r
  replace V_ca := V_ca.other W1 ne_ca_ba
  replace Zs := Nat.le_trans Zs (Nat.le_of_eq W1.size.symm)
  replace K := K.wr W1 (Or.inl (by simp))
  replace V_ba : Own.VA Z h2 ba .byte [(.int (nar .byte (Own.i2bW c0))), (.int (0 : Int32))] := V_ba
  replace r : A17 l Z n0 D h2 0 0 35 #[.val (.ref ca), .val (.int (1 : Int32)), .val (.ref ba), .val (.int (0 : Int32)), .val (.int (2 : Int32)), .val (.int (0 : Int32)), .val (.int c0)] [] := Own.iinc r d17_32 rfl rfl rfl
  replace r : A17 l Z n0 D h2 0 0 38 #[.val (.ref ca), .val (.int (1 : Int32)), .val (.ref ba), .val (.int (1 : Int32)), .val (.int (2 : Int32)), .val (.int (0 : Int32)), .val (.int c0)] [] := Own.iinc r d17_35 rfl rfl rfl
  replace r : A17 l Z n0 D h2 0 0 41 #[.val (.ref ca), .val (.int (1 : Int32)), .val (.ref ba), .val (.int (1 : Int32)), .val (.int (2 : Int32)), .val (.int (1 : Int32)), .val (.int c0)] [] := Own.iinc r d17_38 rfl rfl rfl
  replace r : A17 l Z n0 D h2 0 0 3 #[.val (.ref ca), .val (.int (1 : Int32)), .val (.ref ba), .val (.int (1 : Int32)), .val (.int (2 : Int32)), .val (.int (1 : Int32)), .val (.int c0)] [] := Own.goto r d17_41 (by decide) (by decide)
  replace r : A17 l Z n0 D h2 0 0 5 #[.val (.ref ca), .val (.int (1 : Int32)), .val (.ref ba), .val (.int (1 : Int32)), .val (.int (2 : Int32)), .val (.int (1 : Int32)), .val (.int c0)] [(.int (1 : Int32))] := Own.iload r d17_3 rfl
  replace r : A17 l Z n0 D h2 0 0 7 #[.val (.ref ca), .val (.int (1 : Int32)), .val (.ref ba), .val (.int (1 : Int32)), .val (.int (2 : Int32)), .val (.int (1 : Int32)), .val (.int c0)] [(.int (2 : Int32)), (.int (1 : Int32))] := Own.iload r d17_5 rfl
  replace r : A17 l Z n0 D h2 0 0 10 #[.val (.ref ca), .val (.int (1 : Int32)), .val (.ref ba), .val (.int (1 : Int32)), .val (.int (2 : Int32)), .val (.int (1 : Int32)), .val (.int c0)] [] := Own.icmpNo r d17_7 (tlt (by decide : (1 : Int32) < (2 : Int32))).2.1
  replace r : A17 l Z n0 D h2 0 0 11 #[.val (.ref ca), .val (.int (1 : Int32)), .val (.ref ba), .val (.int (1 : Int32)), .val (.int (2 : Int32)), .val (.int (1 : Int32)), .val (.int c0)] [(.ref ca)] := Own.aloadN r d17_10 rfl rfl
  replace r : A17 l Z n0 D h2 0 0 12 #[.val (.ref ca), .val (.int (1 : Int32)), .val (.ref ba), .val (.int (1 : Int32)), .val (.int (2 : Int32)), .val (.int (1 : Int32)), .val (.int c0)] [(.int (1 : Int32)), (.ref ca)] := Own.iloadN r d17_11 rfl
  replace r : A17 l Z n0 D h2 0 0 13 #[.val (.ref ca), .val (.int (1 : Int32)), .val (.ref ba), .val (.int (1 : Int32)), .val (.int (2 : Int32)), .val (.int (1 : Int32)), .val (.int c0)] [(.int c1)] := Own.caload r d17_12 V_ca (by decide) rfl
  replace r : A17 l Z n0 D h2 0 0 15 #[.val (.ref ca), .val (.int (1 : Int32)), .val (.ref ba), .val (.int (1 : Int32)), .val (.int (2 : Int32)), .val (.int (1 : Int32)), .val (.int c1)] [] := Own.istore r d17_13 rfl
  replace r : A17 l Z n0 D h2 0 0 17 #[.val (.ref ca), .val (.int (1 : Int32)), .val (.ref ba), .val (.int (1 : Int32)), .val (.int (2 : Int32)), .val (.int (1 : Int32)), .val (.int c1)] [(.int c1)] := Own.iload r d17_15 rfl
  replace r : A17 l Z n0 D h2 0 0 20 #[.val (.ref ca), .val (.int (1 : Int32)), .val (.ref ba), .val (.int (1 : Int32)), .val (.int (2 : Int32)), .val (.int (1 : Int32)), .val (.int c1)] [(.int (255 : Int32)), (.int c1)] := Own.sipush r d17_17 rfl
  replace r : A17 l Z n0 D h2 0 0 26 #[.val (.ref ca), .val (.int (1 : Int32)), .val (.ref ba), .val (.int (1 : Int32)), .val (.int (2 : Int32)), .val (.int (1 : Int32)), .val (.int c1)] [] := Own.icmpYes r d17_20 (flt k1).2.2.2 (by decide) (by decide)
  replace r : A17 l Z n0 D h2 0 0 27 #[.val (.ref ca), .val (.int (1 : Int32)), .val (.ref ba), .val (.int (1 : Int32)), .val (.int (2 : Int32)), .val (.int (1 : Int32)), .val (.int c1)] [(.ref ba)] := Own.aloadN r d17_26 rfl rfl
  replace r : A17 l Z n0 D h2 0 0 28 #[.val (.ref ca), .val (.int (1 : Int32)), .val (.ref ba), .val (.int (1 : Int32)), .val (.int (2 : Int32)), .val (.int (1 : Int32)), .val (.int c1)] [(.int (1 : Int32)), (.ref ba)] := Own.iloadN r d17_27 rfl
  replace r : A17 l Z n0 D h2 0 0 30 #[.val (.ref ca), .val (.int (1 : Int32)), .val (.ref ba), .val (.int (1 : Int32)), .val (.int (2 : Int32)), .val (.int (1 : Int32)), .val (.int c1)] [(.int c1), (.int (1 : Int32)), (.ref ba)] := Own.iload r d17_28 rfl
  replace r : A17 l Z n0 D h2 0 0 31 #[.val (.ref ca), .val (.int (1 : Int32)), .val (.ref ba), .val (.int (1 : Int32)), .val (.int (2 : Int32)), .val (.int (1 : Int32)), .val (.int c1)] [(.int (Own.i2bW c1)), (.int (1 : Int32)), (.ref ba)] := Own.i2b r d17_30
  obtain ⟨h4, ⟨W3, V_ba⟩, r⟩ := Own.bastore r d17_31 V_ba (by decide) (Nat.le_of_ble_eq_true rfl) ge_ba
  replace r : A17 l Z n0 D h4 0 0 32 #[.val (.ref ca), .val (.int (1 : Int32)), .val (.ref ba), .val (.int (1 : Int32)), .val (.int (2 : Int32)), .val (.int (1 : Int32)), .val (.int c1)] [] := r
  replace V_ca := V_ca.other W3 ne_ca_ba
  replace Zs := Nat.le_trans Zs (Nat.le_of_eq W3.size.symm)
  replace K := K.wr W3 (Or.inl (by simp))
  replace V_ba : Own.VA Z h4 ba .byte [(.int (nar .byte (Own.i2bW c0))), (.int (nar .byte (Own.i2bW c1)))] := V_ba
  replace r : A17 l Z n0 D h4 0 0 35 #[.val (.ref ca), .val (.int (2 : Int32)), .val (.ref ba), .val (.int (1 : Int32)), .val (.int (2 : Int32)), .val (.int (1 : Int32)), .val (.int c1)] [] := Own.iinc r d17_32 rfl rfl rfl
  replace r : A17 l Z n0 D h4 0 0 38 #[.val (.ref ca), .val (.int (2 : Int32)), .val (.ref ba), .val (.int (2 : Int32)), .val (.int (2 : Int32)), .val (.int (1 : Int32)), .val (.int c1)] [] := Own.iinc r d17_35 rfl rfl rfl
  replace r : A17 l Z n0 D h4 0 0 41 #[.val (.ref ca), .val (.int (2 : Int32)), .val (.ref ba), .val (.int (2 : Int32)), .val (.int (2 : Int32)), .val (.int (2 : Int32)), .val (.int c1)] [] := Own.iinc r d17_38 rfl rfl rfl
  replace r : A17 l Z n0 D h4 0 0 3 #[.val (.ref ca), .val (.int (2 : Int32)), .val (.ref ba), .val (.int (2 : Int32)), .val (.int (2 : Int32)), .val (.int (2 : Int32)), .val (.int c1)] [] := Own.goto r d17_41 (by decide) (by decide)
  replace r : A17 l Z n0 D h4 0 0 5 #[.val (.ref ca), .val (.int (2 : Int32)), .val (.ref ba), .val (.int (2 : Int32)), .val (.int (2 : Int32)), .val (.int (2 : Int32)), .val (.int c1)] [(.int (2 : Int32))] := Own.iload r d17_3 rfl
  replace r : A17 l Z n0 D h4 0 0 7 #[.val (.ref ca), .val (.int (2 : Int32)), .val (.ref ba), .val (.int (2 : Int32)), .val (.int (2 : Int32)), .val (.int (2 : Int32)), .val (.int c1)] [(.int (2 : Int32)), (.int (2 : Int32))] := Own.iload r d17_5 rfl
  replace r : A17 l Z n0 D h4 0 0 44 #[.val (.ref ca), .val (.int (2 : Int32)), .val (.ref ba), .val (.int (2 : Int32)), .val (.int (2 : Int32)), .val (.int (2 : Int32)), .val (.int c1)] [] := Own.icmpYes r d17_7 (flt (by decide : ¬ ((2 : Int32) < (2 : Int32)))).2.1 (by decide) (by decide)
  replace r : A17 l Z n0 D h4 0 0 46 #[.val (.ref ca), .val (.int (2 : Int32)), .val (.ref ba), .val (.int (2 : Int32)), .val (.int (2 : Int32)), .val (.int (2 : Int32)), .val (.int c1)] [(.int (2 : Int32))] := Own.iload r d17_44 rfl
  exact ⟨_, _, (Own.Rch.retI r d17_46).more (by decide) (by decide), rfl, K, _, _, V_ba⟩
theorem d16_0 : decode jdk_52_method_16_code 0 = .ok (.iload_n 2, 1) := by decide +kernel
theorem d16_1 : decode jdk_52_method_16_code 1 = .ok (.newarray .byte, 2) := by decide +kernel
theorem d16_3 : decode jdk_52_method_16_code 3 = .ok (.astore_n 3, 1) := by decide +kernel
theorem d16_4 : decode jdk_52_method_16_code 4 = .ok (.aload_n 0, 1) := by decide +kernel
theorem d16_5 : decode jdk_52_method_16_code 5 = .ok (.iload_n 1, 1) := by decide +kernel
theorem d16_6 : decode jdk_52_method_16_code 6 = .ok (.aload_n 3, 1) := by decide +kernel
theorem d16_7 : decode jdk_52_method_16_code 7 = .ok (.iconst 0, 1) := by decide +kernel
theorem d16_8 : decode jdk_52_method_16_code 8 = .ok (.iload_n 2, 1) := by decide +kernel
theorem d16_9 : decode jdk_52_method_16_code 9 = .ok (.invokestatic 115, 3) := by decide +kernel
theorem d16_12 : decode jdk_52_method_16_code 12 = .ok (.istore 4, 2) := by decide +kernel
theorem d16_14 : decode jdk_52_method_16_code 14 = .ok (.iload 4, 2) := by decide +kernel
theorem d16_16 : decode jdk_52_method_16_code 16 = .ok (.iload_n 2, 1) := by decide +kernel
theorem d16_17 : decode jdk_52_method_16_code 17 = .ok (.if_icmp .eq 40, 3) := by decide +kernel
theorem d16_57 : decode jdk_52_method_16_code 57 = .ok (.aload_n 3, 1) := by decide +kernel
theorem d16_58 : decode jdk_52_method_16_code 58 = .ok (.areturn, 1) := by decide +kernel
theorem pd_16_0 : parseMethodDescriptor "([CI[BII)I" = some ⟨[(.array .char), .int, (.array .byte), .int, .int], some .int⟩ := by decide +kernel
theorem pn_16 : plainFor (⟨"java/lang/StringUTF16", "compress", "([CII)[B"⟩ : MethodName) = true := plainFor_of_name (by first | (simp [plainName, overriddenIn, x]; done) | decide +kernel)
theorem ef_16 (ca : Addr) (p1 : Int32) (p2 : Int32) (m : MethodId) : entryFrame m #[(.ref ca), (.int p1), (.int p2)] 6 = mkF m 0 #[.val (.ref ca), .val (.int p1), .val (.int p2), .unset, .unset, .unset] [] := by first | (simp [entryFrame, mkF, argsToLocals, Value.category, maxLocals]; done) | rfl
abbrev R16 : Room := ({ frames := 1, cells := 1, slots := 2, locals := 18 } : Room)
abbrev A16 (l : Launch) (Z : State) (n0 : Nat) (D : Own.Dyn) := Own.Rch l Z n0 R16 (⟨"java/lang/StringUTF16", "compress", "([CII)[B"⟩ : MethodName) jdk_52_method_16_code 6 (some (.array .byte)) D
set_option maxRecDepth 65536 in
set_option maxHeartbeats 40000000 in
theorem c16 (l : Launch) (Z : State) (a0 : Array Value) (hw : ∀ d ∈ tables_1, d.before a0 Z = true) (n0 : Nat) (h : Heap) (Zs : n0 ≤ h.size) (ca : Addr) (p1 : Int32) (p2 : Int32) (c0 c1 : Int32) (V_ca : Own.VA Z h ca .char [(.int c0), (.int c1)]) (k0 : ¬ (255 : Int32) < c0) (k1 : ¬ (255 : Int32) < c1) (e1 : p1 = (0 : Int32)) (e2 : p2 = (2 : Int32)) :
    Own.Con l Z n0 (⟨"java/lang/StringUTF16", "compress", "([CII)[B"⟩ : MethodName) jdk_52_method_16_code 6 (some (.array .byte)) R16 #[(.ref ca), (.int p1), (.int p2)] h (fun v h' => ∃ b, v = some (.ref b) ∧ h.size ≤ b ∧ Keep h h' [] ∧ ∃ x y, Own.VA Z h' b .byte [x, y]) := by
  refine Own.Con.enter pn_16 (ef_16 ca p1 p2) fun D r => ?_
  subst e1
  subst e2
  have K : Keep h h [] := Keep.refl _ _
  replace r : A16 l Z n0 D h 0 0 1 #[.val (.ref ca), .val (.int (0 : Int32)), .val (.int (2 : Int32)), .unset, .unset, .unset] [(.int (2 : Int32))] := Own.iloadN r d16_0 rfl
  obtain ⟨h1, ⟨E1, V_b1⟩, r⟩ := Own.newArr r d16_1 (hw _ (List.mem_of_getElem? (i := 42) rfl)) (by decide) (cap := 2) (by decide) (by decide) (by decide) (by decide)
  obtain ⟨b1, g1⟩ : ∃ z, z = h.size := ⟨_, rfl⟩
  rw [← g1] at V_b1 r
  have ge_b1 : n0 ≤ b1 := Nat.le_trans Zs (Nat.le_of_eq g1.symm)
  have sz_b1 : h.size ≤ b1 := Nat.le_trans K.1 (Nat.le_of_eq g1.symm)
  have ne_ca_b1 : ca ≠ b1 := Own.ne_lt V_ca.lt g1
  replace V_ca := V_ca.ext E1
  replace Zs := Nat.le_trans Zs E1.1
  replace K := K.ext E1
  replace r : A16 l Z n0 D h1 1 2 3 #[.val (.ref ca), .val (.int (0 : Int32)), .val (.int (2 : Int32)), .unset, .unset, .unset] [(.ref b1)] := r
  replace V_b1 : Own.VA Z h1 b1 .byte [(.int (0 : Int32)), (.int (0 : Int32))] := V_b1
  replace r : A16 l Z n0 D h1 1 2 4 #[.val (.ref ca), .val (.int (0 : Int32)), .val (.int (2 : Int32)), .val (.ref b1), .unset, .unset] [] := Own.astoreN r d16_3 rfl rfl
  replace r : A16 l Z n0 D h1 1 2 5 #[.val (.ref ca), .val (.int (0 : Int32)), .val (.int (2 : Int32)), .val (.ref b1), .unset, .unset] [(.ref ca)] := Own.aloadN r d16_4 rfl rfl
  replace r : A16 l Z n0 D h1 1 2 6 #[.val (.ref ca), .val (.int (0 : Int32)), .val (.int (2 : Int32)), .val (.ref b1), .unset, .unset] [(.int (0 : Int32)), (.ref ca)] := Own.iloadN r d16_5 rfl
  replace r : A16 l Z n0 D h1 1 2 7 #[.val (.ref ca), .val (.int (0 : Int32)), .val (.int (2 : Int32)), .val (.ref b1), .unset, .unset] [(.ref b1), (.int (0 : Int32)), (.ref ca)] := Own.aloadN r d16_6 rfl rfl
  replace r : A16 l Z n0 D h1 1 2 8 #[.val (.ref ca), .val (.int (0 : Int32)), .val (.int (2 : Int32)), .val (.ref b1), .unset, .unset] [(.int (0 : Int32)), (.ref b1), (.int (0 : Int32)), (.ref ca)] := Own.iconst r d16_7 rfl
  replace r : A16 l Z n0 D h1 1 2 9 #[.val (.ref ca), .val (.int (0 : Int32)), .val (.int (2 : Int32)), .val (.ref b1), .unset, .unset] [(.int (2 : Int32)), (.int (0 : Int32)), (.ref b1), (.int (0 : Int32)), (.ref ca)] := Own.iloadN r d16_8 rfl
  obtain ⟨rv2, h3, hQ4, r⟩ := Own.callS [(.ref ca), (.int (0 : Int32)), (.ref b1), (.int (0 : Int32)), (.int (2 : Int32))] r d16_9 (c17 l Z a0 hw n0 h1 Zs ca (0 : Int32) b1 (0 : Int32) (2 : Int32) c0 c1 V_ca V_b1 ge_b1 ne_ca_b1 rfl rfl rfl k0 k1) (hw _ (List.mem_of_getElem? (i := 95) rfl)) (hw _ (List.mem_of_getElem? (i := 96) rfl)) (hw _ (List.mem_of_getElem? (i := 93) rfl)) (hw _ (List.mem_of_getElem? (i := 97) rfl)) (lenOf pd_16_0 rfl) rfl rfl (W := 0) (Nat.le_of_eq rfl) rfl (by decide) (by decide) (by decide) (by decide) (by decide)
  obtain ⟨rfl, K5, x_, y_, V_b1⟩ := hQ4
  replace V_ca := V_ca.keep K5 (by simp [ne_ca_b1])
  replace Zs := Nat.le_trans Zs K5.1
  replace K := K.trans K5 (by simp [sz_b1])
  replace r : A16 l Z n0 D h3 1 2 12 #[.val (.ref ca), .val (.int (0 : Int32)), .val (.int (2 : Int32)), .val (.ref b1), .unset, .unset] [(.int (2 : Int32))] := r
  replace r : A16 l Z n0 D h3 1 2 14 #[.val (.ref ca), .val (.int (0 : Int32)), .val (.int (2 : Int32)), .val (.ref b1), .val (.int (2 : Int32)), .unset] [] := Own.istore r d16_12 rfl
  replace r : A16 l Z n0 D h3 1 2 16 #[.val (.ref ca), .val (.int (0 : Int32)), .val (.int (2 : Int32)), .val (.ref b1), .val (.int (2 : Int32)), .unset] [(.int (2 : Int32))] := Own.iload r d16_14 rfl
  replace r : A16 l Z n0 D h3 1 2 17 #[.val (.ref ca), .val (.int (0 : Int32)), .val (.int (2 : Int32)), .val (.ref b1), .val (.int (2 : Int32)), .unset] [(.int (2 : Int32)), (.int (2 : Int32))] := Own.iloadN r d16_16 rfl
  replace r : A16 l Z n0 D h3 1 2 57 #[.val (.ref ca), .val (.int (0 : Int32)), .val (.int (2 : Int32)), .val (.ref b1), .val (.int (2 : Int32)), .unset] [] := Own.icmpYes r d16_17 (teq (by decide : (2 : Int32) = (2 : Int32))).1 (by decide) (by decide)
  replace r : A16 l Z n0 D h3 1 2 58 #[.val (.ref ca), .val (.int (0 : Int32)), .val (.int (2 : Int32)), .val (.ref b1), .val (.int (2 : Int32)), .unset] [(.ref b1)] := Own.aloadN r d16_57 rfl rfl
  exact ⟨_, _, (Own.Rch.retA r d16_58 rfl rfl).more (by decide) (by decide), b1, rfl, sz_b1, K, _, _, V_b1⟩
theorem d18_0 : decode jdk_52_method_15_code 0 = .ok (.iload_n 1, 1) := by decide +kernel
theorem d18_1 : decode jdk_52_method_15_code 1 = .ok (.aload_n 0, 1) := by decide +kernel
theorem d18_2 : decode jdk_52_method_15_code 2 = .ok (.arraylength, 1) := by decide +kernel
theorem d18_3 : decode jdk_52_method_15_code 3 = .ok (.isub, 1) := by decide +kernel
theorem d18_4 : decode jdk_52_method_15_code 4 = .ok (.bipush 31, 2) := by decide +kernel
theorem d18_6 : decode jdk_52_method_15_code 6 = .ok (.iushr, 1) := by decide +kernel
theorem d18_7 : decode jdk_52_method_15_code 7 = .ok (.i2b, 1) := by decide +kernel
theorem d18_8 : decode jdk_52_method_15_code 8 = .ok (.ireturn, 1) := by decide +kernel
theorem pn_18 : plainFor (⟨"java/lang/StringUTF16", "coderFromArrayLen", "([BI)B"⟩ : MethodName) = true := plainFor_of_name (by first | (simp [plainName, overriddenIn, x]; done) | decide +kernel)
theorem ef_18 (ba : Addr) (p1 : Int32) (m : MethodId) : entryFrame m #[(.ref ba), (.int p1)] 2 = mkF m 0 #[.val (.ref ba), .val (.int p1)] [] := by first | (simp [entryFrame, mkF, argsToLocals, Value.category, maxLocals]; done) | rfl
abbrev R18 : Room := ({ frames := 0, cells := 0, slots := 0, locals := 0 } : Room)
abbrev A18 (l : Launch) (Z : State) (n0 : Nat) (D : Own.Dyn) := Own.Rch l Z n0 R18 (⟨"java/lang/StringUTF16", "coderFromArrayLen", "([BI)B"⟩ : MethodName) jdk_52_method_15_code 2 (some .byte) D
set_option maxRecDepth 65536 in
set_option maxHeartbeats 40000000 in
theorem c18 (l : Launch) (Z : State) (a0 : Array Value) (hw : ∀ d ∈ tables_1, d.before a0 Z = true) (n0 : Nat) (h : Heap) (Zs : n0 ≤ h.size) (ba : Addr) (p1 : Int32) (x_ y_ : Value) (V_ba : Own.VA Z h ba .byte [x_, y_]) (e1 : p1 = (2 : Int32)) :
    Own.Con l Z n0 (⟨"java/lang/StringUTF16", "coderFromArrayLen", "([BI)B"⟩ : MethodName) jdk_52_method_15_code 2 (some .byte) R18 #[(.ref ba), (.int p1)] h (fun v h' => h = h' ∧ v = some (.int 0)) := by
  refine Own.Con.enter pn_18 (ef_18 ba p1) fun D r => ?_
  subst e1
  replace r : A18 l Z n0 D h 0 0 1 #[.val (.ref ba), .val (.int (2 : Int32))] [(.int (2 : Int32))] := Own.iloadN r d18_0 rfl
  replace r : A18 l Z n0 D h 0 0 2 #[.val (.ref ba), .val (.int (2 : Int32))] [(.ref ba), (.int (2 : Int32))] := Own.aloadN r d18_1 rfl rfl
  replace r : A18 l Z n0 D h 0 0 3 #[.val (.ref ba), .val (.int (2 : Int32))] [(.int (2 : Int32)), (.int (2 : Int32))] := Own.arrlen r d18_2 V_ba rfl
  replace r : A18 l Z n0 D h 0 0 4 #[.val (.ref ba), .val (.int (2 : Int32))] [(.int (0 : Int32))] := Own.isub r d18_3
  replace r : A18 l Z n0 D h 0 0 6 #[.val (.ref ba), .val (.int (2 : Int32))] [(.int (31 : Int32)), (.int (0 : Int32))] := Own.bipush r d18_4 rfl
  replace r : A18 l Z n0 D h 0 0 7 #[.val (.ref ba), .val (.int (2 : Int32))] [(.int (0 : Int32))] := Own.iushr r d18_6
  replace r : A18 l Z n0 D h 0 0 8 #[.val (.ref ba), .val (.int (2 : Int32))] [(.int (Own.i2bW (0 : Int32)))] := Own.i2b r d18_7
  exact ⟨_, _, (Own.Rch.retB r d18_8 (by decide)).more (by decide) (by decide), rfl, rfl⟩
theorem d15_0 : decode jdk_42_method_149_code 0 = .ok (.aload_n 0, 1) := by decide +kernel
theorem d15_1 : decode jdk_42_method_149_code 1 = .ok (.invokespecial 1, 3) := by decide +kernel
theorem d15_4 : decode jdk_42_method_149_code 4 = .ok (.iload_n 3, 1) := by decide +kernel
theorem d15_5 : decode jdk_42_method_149_code 5 = .ok (.ifCond .ne 22, 3) := by decide +kernel
theorem d15_27 : decode jdk_42_method_149_code 27 = .ok (.getstatic 38, 3) := by decide +kernel
theorem d15_30 : decode jdk_42_method_149_code 30 = .ok (.ifCond .eq 28, 3) := by decide +kernel
theorem d15_33 : decode jdk_42_method_149_code 33 = .ok (.aload_n 1, 1) := by decide +kernel
theorem d15_34 : decode jdk_42_method_149_code 34 = .ok (.iload_n 2, 1) := by decide +kernel
theorem d15_35 : decode jdk_42_method_149_code 35 = .ok (.iload_n 3, 1) := by decide +kernel
theorem d15_36 : decode jdk_42_method_149_code 36 = .ok (.invokestatic 177, 3) := by decide +kernel
theorem d15_39 : decode jdk_42_method_149_code 39 = .ok (.astore 5, 2) := by decide +kernel
theorem d15_41 : decode jdk_42_method_149_code 41 = .ok (.aload_n 0, 1) := by decide +kernel
theorem d15_42 : decode jdk_42_method_149_code 42 = .ok (.aload 5, 2) := by decide +kernel
theorem d15_44 : decode jdk_42_method_149_code 44 = .ok (.iload_n 3, 1) := by decide +kernel
theorem d15_45 : decode jdk_42_method_149_code 45 = .ok (.invokestatic 47, 3) := by decide +kernel
theorem d15_48 : decode jdk_42_method_149_code 48 = .ok (.putfield 15, 3) := by decide +kernel
theorem d15_51 : decode jdk_42_method_149_code 51 = .ok (.aload_n 0, 1) := by decide +kernel
theorem d15_52 : decode jdk_42_method_149_code 52 = .ok (.aload 5, 2) := by decide +kernel
theorem d15_54 : decode jdk_42_method_149_code 54 = .ok (.putfield 9, 3) := by decide +kernel
theorem d15_57 : decode jdk_42_method_149_code 57 = .ok (.return_, 1) := by decide +kernel
theorem pd_15_0 : parseMethodDescriptor "([CII)[B" = some ⟨[(.array .char), .int, .int], some (.array .byte)⟩ := by decide +kernel
theorem pd_15_1 : parseMethodDescriptor "([BI)B" = some ⟨[(.array .byte), .int], some .byte⟩ := by decide +kernel
theorem pn_15 : plainFor (⟨"java/lang/String", "<init>", "([CIILjava/lang/Void;)V"⟩ : MethodName) = true := plainFor_of_name (by first | (simp [plainName, overriddenIn, x]; done) | decide +kernel)
theorem ef_15 (a : Addr) (ca : Addr) (p2 : Int32) (p3 : Int32) (m : MethodId) : entryFrame m #[(.ref a), (.ref ca), (.int p2), (.int p3), .null] 6 = mkF m 0 #[.val (.ref a), .val (.ref ca), .val (.int p2), .val (.int p3), .val .null, .unset] [] := by first | (simp [entryFrame, mkF, argsToLocals, Value.category, maxLocals]; done) | rfl
abbrev R15 : Room := ({ frames := 2, cells := 1, slots := 2, locals := 35 } : Room)
abbrev A15 (l : Launch) (Z : State) (n0 : Nat) (D : Own.Dyn) := Own.Rch l Z n0 R15 (⟨"java/lang/String", "<init>", "([CIILjava/lang/Void;)V"⟩ : MethodName) jdk_42_method_149_code 6 none D
set_option maxRecDepth 65536 in
set_option maxHeartbeats 40000000 in
theorem c15 (l : Launch) (Z : State) (a0 : Array Value) (hw : ∀ d ∈ tables_1, d.before a0 Z = true) (n0 : Nat) (h : Heap) (Zs : n0 ≤ h.size) (a : Addr) (ca : Addr) (p2 : Int32) (p3 : Int32) (u_value u_coder : Value) (F_value_a : Fld Z h a "java/lang/String" "value" "[B" u_value) (F_coder_a : Fld Z h a "java/lang/String" "coder" "B" u_coder) (X_a : Exa Z h a "java/lang/String") (ge_a : n0 ≤ a) (ne_ca_a : ca ≠ a) (O : Old Z n0 h) (cs : Int32) (hC : Sta Z Z.heap "java/lang/String" "COMPACT_STRINGS" "Z" (.int cs)) (hcs : ¬ cs = 0) (c0 c1 : Int32) (V_ca : Own.VA Z h ca .char [(.int c0), (.int c1)]) (k0 : ¬ (255 : Int32) < c0) (k1 : ¬ (255 : Int32) < c1) (e2 : p2 = (0 : Int32)) (e3 : p3 = (2 : Int32)) :
    Own.Con l Z n0 (⟨"java/lang/String", "<init>", "([CIILjava/lang/Void;)V"⟩ : MethodName) jdk_42_method_149_code 6 none R15 #[(.ref a), (.ref ca), (.int p2), (.int p3), .null] h (fun v h' => v = none ∧ Keep h h' [a] ∧ Exa Z h' a "java/lang/String") := by
  refine Own.Con.enter pn_15 (ef_15 a ca p2 p3) fun D r => ?_
  subst e2
  subst e3
  have K : Keep h h [a] := Keep.refl _ _
  replace r : A15 l Z n0 D h 0 0 1 #[.val (.ref a), .val (.ref ca), .val (.int (0 : Int32)), .val (.int (2 : Int32)), .val .null, .unset] [(.ref a)] := Own.aloadN r d15_0 rfl rfl
  replace r : A15 l Z n0 D h 0 0 4 #[.val (.ref a), .val (.ref ca), .val (.int (0 : Int32)), .val (.int (2 : Int32)), .val .null, .unset] [] := Own.initObj r d15_1 (hw _ (List.mem_of_getElem? (i := 47) rfl)) (hw _ (List.mem_of_getElem? (i := 21) rfl)) (hw _ (List.mem_of_getElem? (i := 22) rfl)) rfl (by decide) (W := 0) (Nat.le_of_eq rfl) (by decide)
  replace r : A15 l Z n0 D h 0 0 5 #[.val (.ref a), .val (.ref ca), .val (.int (0 : Int32)), .val (.int (2 : Int32)), .val .null, .unset] [(.int (2 : Int32))] := Own.iloadN r d15_4 rfl
  replace r : A15 l Z n0 D h 0 0 27 #[.val (.ref a), .val (.ref ca), .val (.int (0 : Int32)), .val (.int (2 : Int32)), .val .null, .unset] [] := Own.ifYes r d15_5 ((if0 _ _).trans (feq (by decide : ¬ ((2 : Int32) = (0 : Int32)))).2) (by decide) (by decide)
  replace r : A15 l Z n0 D h 0 0 30 #[.val (.ref a), .val (.ref ca), .val (.int (0 : Int32)), .val (.int (2 : Int32)), .val .null, .unset] [(.int cs)] := Own.getstatic r d15_27 (hw _ (List.mem_of_getElem? (i := 32) rfl)) Via.refl (hC.ext O.2)
  replace r : A15 l Z n0 D h 0 0 33 #[.val (.ref a), .val (.ref ca), .val (.int (0 : Int32)), .val (.int (2 : Int32)), .val .null, .unset] [] := Own.ifNo r d15_30 ((if0 _ _).trans (feq hcs).1)
  replace r : A15 l Z n0 D h 0 0 34 #[.val (.ref a), .val (.ref ca), .val (.int (0 : Int32)), .val (.int (2 : Int32)), .val .null, .unset] [(.ref ca)] := Own.aloadN r d15_33 rfl rfl
  replace r : A15 l Z n0 D h 0 0 35 #[.val (.ref a), .val (.ref ca), .val (.int (0 : Int32)), .val (.int (2 : Int32)), .val .null, .unset] [(.int (0 : Int32)), (.ref ca)] := Own.iloadN r d15_34 rfl
  replace r : A15 l Z n0 D h 0 0 36 #[.val (.ref a), .val (.ref ca), .val (.int (0 : Int32)), .val (.int (2 : Int32)), .val .null, .unset] [(.int (2 : Int32)), (.int (0 : Int32)), (.ref ca)] := Own.iloadN r d15_35 rfl
  obtain ⟨rv1, h2, hQ3, r⟩ := Own.callS [(.ref ca), (.int (0 : Int32)), (.int (2 : Int32))] r d15_36 (c16 l Z a0 hw n0 h Zs ca (0 : Int32) (2 : Int32) c0 c1 V_ca k0 k1 rfl rfl) (hw _ (List.mem_of_getElem? (i := 91) rfl)) (hw _ (List.mem_of_getElem? (i := 92) rfl)) (hw _ (List.mem_of_getElem? (i := 93) rfl)) (hw _ (List.mem_of_getElem? (i := 94) rfl)) (lenOf pd_15_0 rfl) rfl rfl (W := 0) (Nat.le_of_eq rfl) rfl (by decide) (by decide) (by decide) (by decide) (by decide)
  obtain ⟨bb, rfl, sz1_bb, K4, x_, y_, V_bb⟩ := hQ3
  have ne_a_bb : a ≠ bb := Nat.ne_of_lt (Nat.lt_of_lt_of_le F_value_a.lt sz1_bb)
  have ne_ca_bb : ca ≠ bb := Nat.ne_of_lt (Nat.lt_of_lt_of_le V_ca.lt sz1_bb)
  replace F_value_a := F_value_a.keep K4 (by simp)
  replace F_coder_a := F_coder_a.keep K4 (by simp)
  replace X_a := X_a.keep K4
  replace O := O.keep K4 all0
  replace V_ca := V_ca.keep K4 (by simp)
  replace Zs := Nat.le_trans Zs K4.1
  replace K := K.trans K4 (by simp)
  replace r : A15 l Z n0 D h2 1 2 39 #[.val (.ref a), .val (.ref ca), .val (.int (0 : Int32)), .val (.int (2 : Int32)), .val .null, .unset] [(.ref bb)] := r
  replace r : A15 l Z n0 D h2 1 2 41 #[.val (.ref a), .val (.ref ca), .val (.int (0 : Int32)), .val (.int (2 : Int32)), .val .null, .val (.ref bb)] [] := Own.astore r d15_39 rfl rfl
  replace r : A15 l Z n0 D h2 1 2 42 #[.val (.ref a), .val (.ref ca), .val (.int (0 : Int32)), .val (.int (2 : Int32)), .val .null, .val (.ref bb)] [(.ref a)] := Own.aloadN r d15_41 rfl rfl
  replace r : A15 l Z n0 D h2 1 2 44 #[.val (.ref a), .val (.ref ca), .val (.int (0 : Int32)), .val (.int (2 : Int32)), .val .null, .val (.ref bb)] [(.ref bb), (.ref a)] := Own.aload r d15_42 rfl rfl
  replace r : A15 l Z n0 D h2 1 2 45 #[.val (.ref a), .val (.ref ca), .val (.int (0 : Int32)), .val (.int (2 : Int32)), .val .null, .val (.ref bb)] [(.int (2 : Int32)), (.ref bb), (.ref a)] := Own.iloadN r d15_44 rfl
  obtain ⟨rv5, h6, hQ7, r⟩ := Own.callS [(.ref bb), (.int (2 : Int32))] r d15_45 (c18 l Z a0 hw n0 h2 Zs bb (2 : Int32) x_ y_ V_bb rfl) (hw _ (List.mem_of_getElem? (i := 98) rfl)) (hw _ (List.mem_of_getElem? (i := 99) rfl)) (hw _ (List.mem_of_getElem? (i := 93) rfl)) (hw _ (List.mem_of_getElem? (i := 100) rfl)) (lenOf pd_15_1 rfl) rfl rfl (W := 1) (Nat.le_of_eq rfl) rfl (by decide) (by decide) (by decide) (by decide) (by decide)
  obtain ⟨rfl, rfl⟩ := hQ7
  replace r : A15 l Z n0 D h2 1 2 48 #[.val (.ref a), .val (.ref ca), .val (.int (0 : Int32)), .val (.int (2 : Int32)), .val .null, .val (.ref bb)] [(.int (0 : Int32)), (.ref a)] := r
  obtain ⟨h9, W8, r⟩ := Own.putfield r d15_48 (host := "") (Or.inl (hw _ (List.mem_of_getElem? (i := 50) rfl))) Via.refl F_coder_a X_a (Or.inr ⟨(hw _ (List.mem_of_getElem? (i := 51) rfl)), rfl, rfl⟩) (hw _ (List.mem_of_getElem? (i := 38) rfl)) (ty := .byte) (by decide) (by first | decide | (subst_vars; split <;> rfl)) (by first | decide | (subst_vars; split <;> rfl)) ge_a
  replace r : A15 l Z n0 D h9 1 2 51 #[.val (.ref a), .val (.ref ca), .val (.int (0 : Int32)), .val (.int (2 : Int32)), .val .null, .val (.ref bb)] [] := r
  replace F_value_a := F_value_a.other W8 (Or.inr (slot_ne (Or.inr (hw _ (List.mem_of_getElem? (i := 49) rfl))) (Or.inr (hw _ (List.mem_of_getElem? (i := 51) rfl))) (by decide) (t := (.array .byte)) (t' := .byte) (by decide) (by decide)))
  replace F_coder_a := F_coder_a.same W8
  replace X_a := X_a.wr W8
  replace O := O.wr W8 ge_a
  replace V_ca := V_ca.other W8 ne_ca_a
  replace V_bb := V_bb.other W8 (Ne.symm ne_a_bb)
  replace Zs := Nat.le_trans Zs (Nat.le_of_eq W8.size.symm)
  replace K := K.wr W8 (Or.inl (by simp))
  replace r : A15 l Z n0 D h9 1 2 52 #[.val (.ref a), .val (.ref ca), .val (.int (0 : Int32)), .val (.int (2 : Int32)), .val .null, .val (.ref bb)] [(.ref a)] := Own.aloadN r d15_51 rfl rfl
  replace r : A15 l Z n0 D h9 1 2 54 #[.val (.ref a), .val (.ref ca), .val (.int (0 : Int32)), .val (.int (2 : Int32)), .val .null, .val (.ref bb)] [(.ref bb), (.ref a)] := Own.aload r d15_52 rfl rfl
  obtain ⟨h11, W10, r⟩ := Own.putfield r d15_54 (host := "") (Or.inl (hw _ (List.mem_of_getElem? (i := 48) rfl))) Via.refl F_value_a X_a (Or.inr ⟨(hw _ (List.mem_of_getElem? (i := 49) rfl)), rfl, rfl⟩) (hw _ (List.mem_of_getElem? (i := 38) rfl)) (ty := (.array .byte)) (by decide) rfl rfl ge_a
  replace r : A15 l Z n0 D h11 1 2 57 #[.val (.ref a), .val (.ref ca), .val (.int (0 : Int32)), .val (.int (2 : Int32)), .val .null, .val (.ref bb)] [] := r
  replace F_value_a := F_value_a.same W10
  replace F_coder_a := F_coder_a.other W10 (Or.inr (slot_ne (Or.inr (hw _ (List.mem_of_getElem? (i := 51) rfl))) (Or.inr (hw _ (List.mem_of_getElem? (i := 49) rfl))) (by decide) (t := .byte) (t' := (.array .byte)) (by decide) (by decide)))
  replace X_a := X_a.wr W10
  replace O := O.wr W10 ge_a
  replace V_ca := V_ca.other W10 ne_ca_a
  replace V_bb := V_bb.other W10 (Ne.symm ne_a_bb)
  replace Zs := Nat.le_trans Zs (Nat.le_of_eq W10.size.symm)
  replace K := K.wr W10 (Or.inl (by simp))
  exact ⟨_, _, (Own.Rch.ret0 r d15_57).more (by decide) (by decide), rfl, K, X_a⟩
theorem d14_0 : decode jdk_42_method_3_code 0 = .ok (.aload_n 0, 1) := by decide +kernel
theorem d14_1 : decode jdk_42_method_3_code 1 = .ok (.aload_n 1, 1) := by decide +kernel
theorem d14_2 : decode jdk_42_method_3_code 2 = .ok (.iconst 0, 1) := by decide +kernel
theorem d14_3 : decode jdk_42_method_3_code 3 = .ok (.aload_n 1, 1) := by decide +kernel
theorem d14_4 : decode jdk_42_method_3_code 4 = .ok (.arraylength, 1) := by decide +kernel
theorem d14_5 : decode jdk_42_method_3_code 5 = .ok (.aconst_null, 1) := by decide +kernel
theorem d14_6 : decode jdk_42_method_3_code 6 = .ok (.invokespecial 27, 3) := by decide +kernel
theorem d14_9 : decode jdk_42_method_3_code 9 = .ok (.return_, 1) := by decide +kernel
theorem pd_14_0 : parseMethodDescriptor "([CIILjava/lang/Void;)V" = some ⟨[(.array .char), .int, .int, (.object "java/lang/Void")], none⟩ := by decide +kernel
theorem pn_14 : plainFor (⟨"java/lang/String", "<init>", "([C)V"⟩ : MethodName) = true := plainFor_of_name (by first | (simp [plainName, overriddenIn, x]; done) | decide +kernel)
theorem ef_14 (a : Addr) (ca : Addr) (m : MethodId) : entryFrame m #[(.ref a), (.ref ca)] 2 = mkF m 0 #[.val (.ref a), .val (.ref ca)] [] := by first | (simp [entryFrame, mkF, argsToLocals, Value.category, maxLocals]; done) | rfl
abbrev R14 : Room := ({ frames := 3, cells := 1, slots := 2, locals := 52 } : Room)
abbrev A14 (l : Launch) (Z : State) (n0 : Nat) (D : Own.Dyn) := Own.Rch l Z n0 R14 (⟨"java/lang/String", "<init>", "([C)V"⟩ : MethodName) jdk_42_method_3_code 2 none D
set_option maxRecDepth 65536 in
set_option maxHeartbeats 40000000 in
theorem c14 (l : Launch) (Z : State) (a0 : Array Value) (hw : ∀ d ∈ tables_1, d.before a0 Z = true) (n0 : Nat) (h : Heap) (Zs : n0 ≤ h.size) (a : Addr) (ca : Addr) (u_value u_coder : Value) (F_value_a : Fld Z h a "java/lang/String" "value" "[B" u_value) (F_coder_a : Fld Z h a "java/lang/String" "coder" "B" u_coder) (X_a : Exa Z h a "java/lang/String") (ge_a : n0 ≤ a) (ne_ca_a : ca ≠ a) (O : Old Z n0 h) (cs : Int32) (hC : Sta Z Z.heap "java/lang/String" "COMPACT_STRINGS" "Z" (.int cs)) (hcs : ¬ cs = 0) (c0 c1 : Int32) (V_ca : Own.VA Z h ca .char [(.int c0), (.int c1)]) (k0 : ¬ (255 : Int32) < c0) (k1 : ¬ (255 : Int32) < c1) :
    Own.Con l Z n0 (⟨"java/lang/String", "<init>", "([C)V"⟩ : MethodName) jdk_42_method_3_code 2 none R14 #[(.ref a), (.ref ca)] h (fun v h' => v = none ∧ Keep h h' [a] ∧ Exa Z h' a "java/lang/String") := by
  refine Own.Con.enter pn_14 (ef_14 a ca) fun D r => ?_
  have K : Keep h h [a] := Keep.refl _ _
  replace r : A14 l Z n0 D h 0 0 1 #[.val (.ref a), .val (.ref ca)] [(.ref a)] := Own.aloadN r d14_0 rfl rfl
  replace r : A14 l Z n0 D h 0 0 2 #[.val (.ref a), .val (.ref ca)] [(.ref ca), (.ref a)] := Own.aloadN r d14_1 rfl rfl
  replace r : A14 l Z n0 D h 0 0 3 #[.val (.ref a), .val (.ref ca)] [(.int (0 : Int32)), (.ref ca), (.ref a)] := Own.iconst r d14_2 rfl
  replace r : A14 l Z n0 D h 0 0 4 #[.val (.ref a), .val (.ref ca)] [(.ref ca), (.int (0 : Int32)), (.ref ca), (.ref a)] := Own.aloadN r d14_3 rfl rfl
  replace r : A14 l Z n0 D h 0 0 5 #[.val (.ref a), .val (.ref ca)] [(.int (2 : Int32)), (.int (0 : Int32)), (.ref ca), (.ref a)] := Own.arrlen r d14_4 V_ca rfl
  replace r : A14 l Z n0 D h 0 0 6 #[.val (.ref a), .val (.ref ca)] [.null, (.int (2 : Int32)), (.int (0 : Int32)), (.ref ca), (.ref a)] := Own.aconstNull r d14_5
  obtain ⟨rv1, h2, hQ3, r⟩ := Own.callI [(.ref ca), (.int (0 : Int32)), (.int (2 : Int32)), .null] r d14_6 (c15 l Z a0 hw n0 h Zs a ca (0 : Int32) (2 : Int32) _ _ F_value_a F_coder_a X_a ge_a ne_ca_a O cs hC hcs c0 c1 V_ca k0 k1 rfl rfl) (hw _ (List.mem_of_getElem? (i := 88) rfl)) (hw _ (List.mem_of_getElem? (i := 89) rfl)) (hw _ (List.mem_of_getElem? (i := 30) rfl)) (hw _ (List.mem_of_getElem? (i := 90) rfl)) rfl (lenOf pd_14_0 rfl) rfl rfl (W := 0) (Nat.le_of_eq rfl) rfl (by decide) (by decide) (by decide) (by decide) (by decide)
  obtain ⟨rfl, K4, X_a⟩ := hQ3
  replace O := O.keep K4 (allS ge_a all0)
  replace V_ca := V_ca.keep K4 (by simp [ne_ca_a])
  replace Zs := Nat.le_trans Zs K4.1
  replace K := K.trans K4 (by simp [])
  replace r : A14 l Z n0 D h2 1 2 9 #[.val (.ref a), .val (.ref ca)] [] := r
  exact ⟨_, _, (Own.Rch.ret0 r d14_9).more (by decide) (by decide), rfl, K, X_a⟩
theorem d19_0 : decode prog_40_method_1_code 0 = .ok (.aload_n 0, 1) := by decide +kernel
theorem d19_1 : decode prog_40_method_1_code 1 = .ok (.invokespecial 5, 3) := by decide +kernel
theorem d19_4 : decode prog_40_method_1_code 4 = .ok (.aload_n 0, 1) := by decide +kernel
theorem d19_5 : decode prog_40_method_1_code 5 = .ok (.aload_n 1, 1) := by decide +kernel
theorem d19_6 : decode prog_40_method_1_code 6 = .ok (.putfield 11, 3) := by decide +kernel
theorem d19_9 : decode prog_40_method_1_code 9 = .ok (.return_, 1) := by decide +kernel
theorem pn_19 : plainFor (⟨"com/example/debit/debit/metering/PackedLines", "<init>", "(Ljava/util/List;)V"⟩ : MethodName) = true := plainFor_of_name (by first | (simp [plainName, overriddenIn, x]; done) | decide +kernel)
theorem ef_19 (a0_ : Addr) (a1_ : Addr) (m : MethodId) : entryFrame m #[(.ref a0_), (.ref a1_)] 2 = mkF m 0 #[.val (.ref a0_), .val (.ref a1_)] [] := by first | (simp [entryFrame, mkF, argsToLocals, Value.category, maxLocals]; done) | rfl
abbrev R19 : Room := ({ frames := 1, cells := 0, slots := 0, locals := 12 } : Room)
abbrev A19 (l : Launch) (Z : State) (n0 : Nat) (D : Own.Dyn) := Own.Rch l Z n0 R19 (⟨"com/example/debit/debit/metering/PackedLines", "<init>", "(Ljava/util/List;)V"⟩ : MethodName) prog_40_method_1_code 2 none D
set_option maxRecDepth 65536 in
set_option maxHeartbeats 40000000 in
theorem c19 (l : Launch) (Z : State) (a0 : Array Value) (hw : ∀ d ∈ tables_1, d.before a0 Z = true) (n0 : Nat) (h : Heap) (Zs : n0 ≤ h.size) (a0_ : Addr) (a1_ : Addr) (u_files : Value) (F_files_a0_ : Fld Z h a0_ "com/example/debit/debit/metering/PackedLines" "files" "Ljava/util/List;" u_files) (X_a0_ : Exa Z h a0_ "com/example/debit/debit/metering/PackedLines") (ge_a0_ : n0 ≤ a0_) :
    Own.Con l Z n0 (⟨"com/example/debit/debit/metering/PackedLines", "<init>", "(Ljava/util/List;)V"⟩ : MethodName) prog_40_method_1_code 2 none R19 #[(.ref a0_), (.ref a1_)] h (fun v h' => v = none ∧ Keep h h' [a0_] ∧ Exa Z h' a0_ "com/example/debit/debit/metering/PackedLines" ∧ Fld Z h' a0_ "com/example/debit/debit/metering/PackedLines" "files" "Ljava/util/List;" (.ref a1_)) := by
  refine Own.Con.enter pn_19 (ef_19 a0_ a1_) fun D r => ?_
  have K : Keep h h [a0_] := Keep.refl _ _
  replace r : A19 l Z n0 D h 0 0 1 #[.val (.ref a0_), .val (.ref a1_)] [(.ref a0_)] := Own.aloadN r d19_0 rfl rfl
  replace r : A19 l Z n0 D h 0 0 4 #[.val (.ref a0_), .val (.ref a1_)] [] := Own.initObj r d19_1 (hw _ (List.mem_of_getElem? (i := 107) rfl)) (hw _ (List.mem_of_getElem? (i := 21) rfl)) (hw _ (List.mem_of_getElem? (i := 22) rfl)) rfl (by decide) (W := 0) (Nat.le_of_eq rfl) (by decide)
  replace r : A19 l Z n0 D h 0 0 5 #[.val (.ref a0_), .val (.ref a1_)] [(.ref a0_)] := Own.aloadN r d19_4 rfl rfl
  replace r : A19 l Z n0 D h 0 0 6 #[.val (.ref a0_), .val (.ref a1_)] [(.ref a1_), (.ref a0_)] := Own.aloadN r d19_5 rfl rfl
  obtain ⟨h2, W1, r⟩ := Own.putfield r d19_6 (host := "") (Or.inl (hw _ (List.mem_of_getElem? (i := 108) rfl))) Via.refl F_files_a0_ X_a0_ (Or.inr ⟨(hw _ (List.mem_of_getElem? (i := 109) rfl)), rfl, rfl⟩) (hw _ (List.mem_of_getElem? (i := 102) rfl)) (ty := (.object "java/util/List")) (by decide) rfl rfl ge_a0_
  replace r : A19 l Z n0 D h2 0 0 9 #[.val (.ref a0_), .val (.ref a1_)] [] := r
  replace F_files_a0_ := F_files_a0_.same W1
  replace X_a0_ := X_a0_.wr W1
  replace Zs := Nat.le_trans Zs (Nat.le_of_eq W1.size.symm)
  replace K := K.wr W1 (Or.inl (by simp))
  exact ⟨_, _, (Own.Rch.ret0 r d19_9).more (by decide) (by decide), rfl, K, X_a0_, F_files_a0_⟩
theorem d20_0 : decode prog_40_method_2_code 0 = .ok (.lload_n 2, 1) := by decide +kernel
theorem d20_1 : decode prog_40_method_2_code 1 = .ok (.ldc2_w 15, 3) := by decide +kernel
theorem d20_4 : decode prog_40_method_2_code 4 = .ok (.lcmp, 1) := by decide +kernel
theorem d20_5 : decode prog_40_method_2_code 5 = .ok (.ifCond .gt 15, 3) := by decide +kernel
theorem d20_8 : decode prog_40_method_2_code 8 = .ok (.lload_n 2, 1) := by decide +kernel
theorem d20_9 : decode prog_40_method_2_code 9 = .ok (.lconst 0, 1) := by decide +kernel
theorem d20_10 : decode prog_40_method_2_code 10 = .ok (.lcmp, 1) := by decide +kernel
theorem d20_11 : decode prog_40_method_2_code 11 = .ok (.ifCond .lt 9, 3) := by decide +kernel
theorem d20_14 : decode prog_40_method_2_code 14 = .ok (.iload_n 1, 1) := by decide +kernel
theorem d20_15 : decode prog_40_method_2_code 15 = .ok (.ldc 17, 2) := by decide +kernel
theorem d20_17 : decode prog_40_method_2_code 17 = .ok (.if_icmp .lt 18, 3) := by decide +kernel
theorem d20_35 : decode prog_40_method_2_code 35 = .ok (.iload_n 1, 1) := by decide +kernel
theorem d20_36 : decode prog_40_method_2_code 36 = .ok (.i2l, 1) := by decide +kernel
theorem d20_37 : decode prog_40_method_2_code 37 = .ok (.bipush 44, 2) := by decide +kernel
theorem d20_39 : decode prog_40_method_2_code 39 = .ok (.lshl, 1) := by decide +kernel
theorem d20_40 : decode prog_40_method_2_code 40 = .ok (.lload_n 2, 1) := by decide +kernel
theorem d20_41 : decode prog_40_method_2_code 41 = .ok (.lor, 1) := by decide +kernel
theorem d20_42 : decode prog_40_method_2_code 42 = .ok (.lreturn, 1) := by decide +kernel
theorem pn_20 : plainFor (⟨"com/example/debit/debit/metering/PackedLines", "pack", "(IJ)J"⟩ : MethodName) = true := plainFor_of_name (by first | (simp [plainName, overriddenIn, x]; done) | decide +kernel)
theorem ef_20 (a0_ : Addr) (p1 : Int32) (q2 : Int64) (m : MethodId) : entryFrame m #[(.ref a0_), (.int p1), (.long q2)] 4 = mkF m 0 #[.val (.ref a0_), .val (.int p1), .val (.long q2), .second] [] := by first | (simp [entryFrame, mkF, argsToLocals, Value.category, maxLocals]; done) | rfl
abbrev R20 : Room := ({ frames := 0, cells := 0, slots := 0, locals := 0 } : Room)
abbrev A20 (l : Launch) (Z : State) (n0 : Nat) (D : Own.Dyn) := Own.Rch l Z n0 R20 (⟨"com/example/debit/debit/metering/PackedLines", "pack", "(IJ)J"⟩ : MethodName) prog_40_method_2_code 4 (some .long) D
def S20 (p1 : Int32) (q2 : Int64) (w : Int64) : Prop := w = ((Own.lshlW p1.toInt64 (44 : Int32)) ||| q2)
set_option maxRecDepth 65536 in
set_option maxHeartbeats 40000000 in
theorem c20 (l : Launch) (Z : State) (a0 : Array Value) (hw : ∀ d ∈ tables_1, d.before a0 Z = true) (n0 : Nat) (h : Heap) (Zs : n0 ≤ h.size) (a0_ : Addr) (p1 : Int32) (q2 : Int64) (j1 : ¬ (17592186044415 : Int64) < q2) (j2 : ¬ q2 < (0 : Int64)) (j3 : p1 < (524288 : Int32)) :
    Own.Con l Z n0 (⟨"com/example/debit/debit/metering/PackedLines", "pack", "(IJ)J"⟩ : MethodName) prog_40_method_2_code 4 (some .long) R20 #[(.ref a0_), (.int p1), (.long q2)] h (fun v h' => h = h' ∧ ∃ w : Int64, v = some (.long w) ∧ S20 p1 q2 w) := by
  refine Own.Con.enter pn_20 (ef_20 a0_ p1 q2) fun D r => ?_
  replace r : A20 l Z n0 D h 0 0 1 #[.val (.ref a0_), .val (.int p1), .val (.long q2), .second] [(.long q2)] := Own.lloadN r d20_0 rfl
  replace r : A20 l Z n0 D h 0 0 4 #[.val (.ref a0_), .val (.int p1), .val (.long q2), .second] [(.long (17592186044415 : Int64)), (.long q2)] := Own.ldcJ r d20_1 (hw _ (List.mem_of_getElem? (i := 115) rfl))
  replace r : A20 l Z n0 D h 0 0 5 #[.val (.ref a0_), .val (.int p1), .val (.long q2), .second] [(.int (XT.cmpL q2 (17592186044415 : Int64)))] := Own.lcmp r d20_4
  replace r : A20 l Z n0 D h 0 0 8 #[.val (.ref a0_), .val (.int p1), .val (.long q2), .second] [] := Own.ifNo r d20_5 (XT.ll_gt_f j1)
  replace r : A20 l Z n0 D h 0 0 9 #[.val (.ref a0_), .val (.int p1), .val (.long q2), .second] [(.long q2)] := Own.lloadN r d20_8 rfl
  replace r : A20 l Z n0 D h 0 0 10 #[.val (.ref a0_), .val (.int p1), .val (.long q2), .second] [(.long (0 : Int64)), (.long q2)] := Own.lconst r d20_9 rfl
  replace r : A20 l Z n0 D h 0 0 11 #[.val (.ref a0_), .val (.int p1), .val (.long q2), .second] [(.int (XT.cmpL q2 (0 : Int64)))] := Own.lcmp r d20_10
  replace r : A20 l Z n0 D h 0 0 14 #[.val (.ref a0_), .val (.int p1), .val (.long q2), .second] [] := Own.ifNo r d20_11 (XT.ll_lt_f j2)
  replace r : A20 l Z n0 D h 0 0 15 #[.val (.ref a0_), .val (.int p1), .val (.long q2), .second] [(.int p1)] := Own.iloadN r d20_14 rfl
  replace r : A20 l Z n0 D h 0 0 17 #[.val (.ref a0_), .val (.int p1), .val (.long q2), .second] [(.int (524288 : Int32)), (.int p1)] := Own.ldcI r d20_15 (hw _ (List.mem_of_getElem? (i := 116) rfl))
  replace r : A20 l Z n0 D h 0 0 35 #[.val (.ref a0_), .val (.int p1), .val (.long q2), .second] [] := Own.icmpYes r d20_17 (tlt j3).1 (by decide) (by decide)
  replace r : A20 l Z n0 D h 0 0 36 #[.val (.ref a0_), .val (.int p1), .val (.long q2), .second] [(.int p1)] := Own.iloadN r d20_35 rfl
  replace r : A20 l Z n0 D h 0 0 37 #[.val (.ref a0_), .val (.int p1), .val (.long q2), .second] [(.long p1.toInt64)] := Own.i2l r d20_36
  replace r : A20 l Z n0 D h 0 0 39 #[.val (.ref a0_), .val (.int p1), .val (.long q2), .second] [(.int (44 : Int32)), (.long p1.toInt64)] := Own.bipush r d20_37 rfl
  replace r : A20 l Z n0 D h 0 0 40 #[.val (.ref a0_), .val (.int p1), .val (.long q2), .second] [(.long (Own.lshlW p1.toInt64 (44 : Int32)))] := Own.lshl r d20_39
  replace r : A20 l Z n0 D h 0 0 41 #[.val (.ref a0_), .val (.int p1), .val (.long q2), .second] [(.long q2), (.long (Own.lshlW p1.toInt64 (44 : Int32)))] := Own.lloadN r d20_40 rfl
  replace r : A20 l Z n0 D h 0 0 42 #[.val (.ref a0_), .val (.int p1), .val (.long q2), .second] [(.long ((Own.lshlW p1.toInt64 (44 : Int32)) ||| q2))] := Own.lor r d20_41
  exact ⟨_, _, (Own.Rch.retJ r d20_42).more (by decide) (by decide), rfl, _, rfl, rfl⟩
theorem d24_0 : decode jdk_41_method_11_code 0 = .ok (.iload_n 0, 1) := by decide +kernel
theorem d24_1 : decode jdk_41_method_11_code 1 = .ok (.ifCond .lt 8, 3) := by decide +kernel
theorem d24_4 : decode jdk_41_method_11_code 4 = .ok (.iload_n 0, 1) := by decide +kernel
theorem d24_5 : decode jdk_41_method_11_code 5 = .ok (.iload_n 1, 1) := by decide +kernel
theorem d24_6 : decode jdk_41_method_11_code 6 = .ok (.if_icmp .lt 10, 3) := by decide +kernel
theorem d24_16 : decode jdk_41_method_11_code 16 = .ok (.iload_n 0, 1) := by decide +kernel
theorem d24_17 : decode jdk_41_method_11_code 17 = .ok (.ireturn, 1) := by decide +kernel
theorem pn_24 : plainFor (⟨"jdk/internal/util/Preconditions", "checkIndex", "(IILjava/util/function/BiFunction;)I"⟩ : MethodName) = true := plainFor_of_name (by first | (simp [plainName, overriddenIn, x]; done) | decide +kernel)
theorem ef_24 (p0 : Int32) (p1 : Int32) (m : MethodId) : entryFrame m #[(.int p0), (.int p1), .null] 3 = mkF m 0 #[.val (.int p0), .val (.int p1), .val .null] [] := by first | (simp [entryFrame, mkF, argsToLocals, Value.category, maxLocals]; done) | rfl
abbrev R24 : Room := ({ frames := 0, cells := 0, slots := 0, locals := 0 } : Room)
abbrev A24 (l : Launch) (Z : State) (n0 : Nat) (D : Own.Dyn) := Own.Rch l Z n0 R24 (⟨"jdk/internal/util/Preconditions", "checkIndex", "(IILjava/util/function/BiFunction;)I"⟩ : MethodName) jdk_41_method_11_code 3 (some .int) D
def S24 (p0 : Int32) (p1 : Int32) (w : Int32) : Prop := w = p0
set_option maxRecDepth 65536 in
set_option maxHeartbeats 40000000 in
theorem c24 (l : Launch) (Z : State) (a0 : Array Value) (hw : ∀ d ∈ tables_1, d.before a0 Z = true) (n0 : Nat) (h : Heap) (Zs : n0 ≤ h.size) (p0 : Int32) (p1 : Int32) (h0 : ¬ p0 < (0 : Int32)) (h1 : p0 < p1) :
    Own.Con l Z n0 (⟨"jdk/internal/util/Preconditions", "checkIndex", "(IILjava/util/function/BiFunction;)I"⟩ : MethodName) jdk_41_method_11_code 3 (some .int) R24 #[(.int p0), (.int p1), .null] h (fun v h' => h = h' ∧ ∃ w : Int32, v = some (.int w) ∧ S24 p0 p1 w) := by
  refine Own.Con.enter pn_24 (ef_24 p0 p1) fun D r => ?_
  replace r : A24 l Z n0 D h 0 0 1 #[.val (.int p0), .val (.int p1), .val .null] [(.int p0)] := Own.iloadN r d24_0 rfl
  replace r : A24 l Z n0 D h 0 0 4 #[.val (.int p0), .val (.int p1), .val .null] [] := Own.ifNo r d24_1 ((if0 _ _).trans (flt h0).1)
  replace r : A24 l Z n0 D h 0 0 5 #[.val (.int p0), .val (.int p1), .val .null] [(.int p0)] := Own.iloadN r d24_4 rfl
  replace r : A24 l Z n0 D h 0 0 6 #[.val (.int p0), .val (.int p1), .val .null] [(.int p1), (.int p0)] := Own.iloadN r d24_5 rfl
  replace r : A24 l Z n0 D h 0 0 16 #[.val (.int p0), .val (.int p1), .val .null] [] := Own.icmpYes r d24_6 (tlt h1).1 (by decide) (by decide)
  replace r : A24 l Z n0 D h 0 0 17 #[.val (.int p0), .val (.int p1), .val .null] [(.int p0)] := Own.iloadN r d24_16 rfl
  exact ⟨_, _, (Own.Rch.retI r d24_17).more (by decide) (by decide), rfl, _, rfl, rfl⟩
theorem d23_0 : decode jdk_31_method_17_code 0 = .ok (.iload_n 0, 1) := by decide +kernel
theorem d23_1 : decode jdk_31_method_17_code 1 = .ok (.iload_n 1, 1) := by decide +kernel
theorem d23_2 : decode jdk_31_method_17_code 2 = .ok (.aconst_null, 1) := by decide +kernel
theorem d23_3 : decode jdk_31_method_17_code 3 = .ok (.invokestatic 105, 3) := by decide +kernel
theorem d23_6 : decode jdk_31_method_17_code 6 = .ok (.ireturn, 1) := by decide +kernel
theorem pd_23_0 : parseMethodDescriptor "(IILjava/util/function/BiFunction;)I" = some ⟨[.int, .int, (.object "java/util/function/BiFunction")], some .int⟩ := by decide +kernel
theorem pn_23 : plainFor (⟨"java/util/Objects", "checkIndex", "(II)I"⟩ : MethodName) = true := plainFor_of_name (by first | (simp [plainName, overriddenIn, x]; done) | decide +kernel)
theorem ef_23 (p0 : Int32) (p1 : Int32) (m : MethodId) : entryFrame m #[(.int p0), (.int p1)] 2 = mkF m 0 #[.val (.int p0), .val (.int p1)] [] := by first | (simp [entryFrame, mkF, argsToLocals, Value.category, maxLocals]; done) | rfl
abbrev R23 : Room := ({ frames := 1, cells := 0, slots := 0, locals := 14 } : Room)
abbrev A23 (l : Launch) (Z : State) (n0 : Nat) (D : Own.Dyn) := Own.Rch l Z n0 R23 (⟨"java/util/Objects", "checkIndex", "(II)I"⟩ : MethodName) jdk_31_method_17_code 2 (some .int) D
def S23 (p0 : Int32) (p1 : Int32) (w : Int32) : Prop := w = p0
set_option maxRecDepth 65536 in
set_option maxHeartbeats 40000000 in
theorem c23 (l : Launch) (Z : State) (a0 : Array Value) (hw : ∀ d ∈ tables_1, d.before a0 Z = true) (n0 : Nat) (h : Heap) (Zs : n0 ≤ h.size) (p0 : Int32) (p1 : Int32) (h0 : ¬ p0 < (0 : Int32)) (h1 : p0 < p1) :
    Own.Con l Z n0 (⟨"java/util/Objects", "checkIndex", "(II)I"⟩ : MethodName) jdk_31_method_17_code 2 (some .int) R23 #[(.int p0), (.int p1)] h (fun v h' => h = h' ∧ ∃ w : Int32, v = some (.int w) ∧ S23 p0 p1 w) := by
  refine Own.Con.enter pn_23 (ef_23 p0 p1) fun D r => ?_
  replace r : A23 l Z n0 D h 0 0 1 #[.val (.int p0), .val (.int p1)] [(.int p0)] := Own.iloadN r d23_0 rfl
  replace r : A23 l Z n0 D h 0 0 2 #[.val (.int p0), .val (.int p1)] [(.int p1), (.int p0)] := Own.iloadN r d23_1 rfl
  replace r : A23 l Z n0 D h 0 0 3 #[.val (.int p0), .val (.int p1)] [.null, (.int p1), (.int p0)] := Own.aconstNull r d23_2
  obtain ⟨rv1, h2, hQ3, r⟩ := Own.callS [(.int p0), (.int p1), .null] r d23_3 (c24 l Z a0 hw n0 h Zs p0 p1 h0 h1) (hw _ (List.mem_of_getElem? (i := 139) rfl)) (hw _ (List.mem_of_getElem? (i := 140) rfl)) (hw _ (List.mem_of_getElem? (i := 141) rfl)) (hw _ (List.mem_of_getElem? (i := 142) rfl)) (lenOf pd_23_0 rfl) rfl rfl (W := 0) (Nat.le_of_eq rfl) rfl (by decide) (by decide) (by decide) (by decide) (by decide)
  obtain ⟨rfl, y4, rfl, e_y4⟩ := hQ3
  replace e_y4 : p0 = y4 := e_y4.symm
  subst e_y4
  replace r : A23 l Z n0 D h 0 0 6 #[.val (.int p0), .val (.int p1)] [(.int p0)] := r
  exact ⟨_, _, (Own.Rch.retI r d23_6).more (by decide) (by decide), rfl, _, rfl, rfl⟩
theorem d25_0 : decode jdk_38_method_18_code 0 = .ok (.aload_n 0, 1) := by decide +kernel
theorem d25_1 : decode jdk_38_method_18_code 1 = .ok (.getfield 9, 3) := by decide +kernel
theorem d25_4 : decode jdk_38_method_18_code 4 = .ok (.iload_n 1, 1) := by decide +kernel
theorem d25_5 : decode jdk_38_method_18_code 5 = .ok (.aaload, 1) := by decide +kernel
theorem d25_6 : decode jdk_38_method_18_code 6 = .ok (.areturn, 1) := by decide +kernel
theorem pn_25 : plainFor (⟨"java/util/ArrayList", "elementData", "(I)Ljava/lang/Object;"⟩ : MethodName) = true := plainFor_of_name (by first | (simp [plainName, overriddenIn, x]; done) | decide +kernel)
theorem ef_25 (a : Addr) (p1 : Int32) (m : MethodId) : entryFrame m #[(.ref a), (.int p1)] 2 = mkF m 0 #[.val (.ref a), .val (.int p1)] [] := by first | (simp [entryFrame, mkF, argsToLocals, Value.category, maxLocals]; done) | rfl
abbrev R25 : Room := ({ frames := 0, cells := 0, slots := 0, locals := 0 } : Room)
abbrev A25 (l : Launch) (Z : State) (n0 : Nat) (D : Own.Dyn) := Own.Rch l Z n0 R25 (⟨"java/util/ArrayList", "elementData", "(I)Ljava/lang/Object;"⟩ : MethodName) jdk_38_method_18_code 2 (some (.object "java/lang/Object")) D
set_option maxRecDepth 65536 in
set_option maxHeartbeats 40000000 in
theorem c25 (l : Launch) (Z : State) (a0 : Array Value) (hw : ∀ d ∈ tables_1, d.before a0 Z = true) (n0 : Nat) (h : Heap) (Zs : n0 ≤ h.size) (a : Addr) (p1 : Int32) (ed : Addr) (vs : List Value) (x : Addr) (F_elementData_a : Fld Z h a "java/util/ArrayList" "elementData" "[Ljava/lang/Object;" (.ref ed)) (V_ed : Own.VA Z h ed (.object "java/lang/Object") vs) (hi : ¬ p1 < (0 : Int32)) (hx : vs[p1.toNatClampNeg]? = some (.ref x)) :
    Own.Con l Z n0 (⟨"java/util/ArrayList", "elementData", "(I)Ljava/lang/Object;"⟩ : MethodName) jdk_38_method_18_code 2 (some (.object "java/lang/Object")) R25 #[(.ref a), (.int p1)] h (fun v h' => h = h' ∧ v = some (.ref x)) := by
  refine Own.Con.enter pn_25 (ef_25 a p1) fun D r => ?_
  replace r : A25 l Z n0 D h 0 0 1 #[.val (.ref a), .val (.int p1)] [(.ref a)] := Own.aloadN r d25_0 rfl rfl
  replace r : A25 l Z n0 D h 0 0 4 #[.val (.ref a), .val (.int p1)] [(.ref ed)] := Own.getfield r d25_1 (host := "") (Or.inl (hw _ (List.mem_of_getElem? (i := 26) rfl))) Via.refl F_elementData_a
  replace r : A25 l Z n0 D h 0 0 5 #[.val (.ref a), .val (.int p1)] [(.int p1), (.ref ed)] := Own.iloadN r d25_4 rfl
  replace r : A25 l Z n0 D h 0 0 6 #[.val (.ref a), .val (.int p1)] [(.ref x)] := Own.aaloadV r d25_5 V_ed rfl hi hx
  exact ⟨_, _, (Own.Rch.retA r d25_6 rfl rfl).more (by decide) (by decide), rfl, rfl⟩
theorem d22_0 : decode jdk_38_method_20_code 0 = .ok (.iload_n 1, 1) := by decide +kernel
theorem d22_1 : decode jdk_38_method_20_code 1 = .ok (.aload_n 0, 1) := by decide +kernel
theorem d22_2 : decode jdk_38_method_20_code 2 = .ok (.getfield 48, 3) := by decide +kernel
theorem d22_5 : decode jdk_38_method_20_code 5 = .ok (.invokestatic 118, 3) := by decide +kernel
theorem d22_8 : decode jdk_38_method_20_code 8 = .ok (.pop, 1) := by decide +kernel
theorem d22_9 : decode jdk_38_method_20_code 9 = .ok (.aload_n 0, 1) := by decide +kernel
theorem d22_10 : decode jdk_38_method_20_code 10 = .ok (.iload_n 1, 1) := by decide +kernel
theorem d22_11 : decode jdk_38_method_20_code 11 = .ok (.invokevirtual 123, 3) := by decide +kernel
theorem d22_14 : decode jdk_38_method_20_code 14 = .ok (.areturn, 1) := by decide +kernel
theorem pd_22_0 : parseMethodDescriptor "(II)I" = some ⟨[.int, .int], some .int⟩ := by decide +kernel
theorem pd_22_1 : parseMethodDescriptor "(I)Ljava/lang/Object;" = some ⟨[.int], some (.object "java/lang/Object")⟩ := by decide +kernel
theorem pn_22 : plainFor (⟨"java/util/ArrayList", "get", "(I)Ljava/lang/Object;"⟩ : MethodName) = true := plainFor_of_name (by first | (simp [plainName, overriddenIn, x]; done) | decide +kernel)
theorem ef_22 (a : Addr) (p1 : Int32) (m : MethodId) : entryFrame m #[(.ref a), (.int p1)] 2 = mkF m 0 #[.val (.ref a), .val (.int p1)] [] := by first | (simp [entryFrame, mkF, argsToLocals, Value.category, maxLocals]; done) | rfl
abbrev R22 : Room := ({ frames := 2, cells := 0, slots := 0, locals := 27 } : Room)
abbrev A22 (l : Launch) (Z : State) (n0 : Nat) (D : Own.Dyn) := Own.Rch l Z n0 R22 (⟨"java/util/ArrayList", "get", "(I)Ljava/lang/Object;"⟩ : MethodName) jdk_38_method_20_code 2 (some (.object "java/lang/Object")) D
set_option maxRecDepth 65536 in
set_option maxHeartbeats 40000000 in
theorem c22 (l : Launch) (Z : State) (a0 : Array Value) (hw : ∀ d ∈ tables_1, d.before a0 Z = true) (n0 : Nat) (h : Heap) (Zs : n0 ≤ h.size) (a : Addr) (p1 : Int32) (ed : Addr) (vs : List Value) (x : Addr) (F_elementData_a : Fld Z h a "java/util/ArrayList" "elementData" "[Ljava/lang/Object;" (.ref ed)) (V_ed : Own.VA Z h ed (.object "java/lang/Object") vs) (hi : ¬ p1 < (0 : Int32)) (hx : vs[p1.toNatClampNeg]? = some (.ref x)) (F_size_a : Fld Z h a "java/util/ArrayList" "size" "I" (.int 2)) (X_a : Exa Z h a "java/util/ArrayList") (hi2 : p1 < (2 : Int32)) :
    Own.Con l Z n0 (⟨"java/util/ArrayList", "get", "(I)Ljava/lang/Object;"⟩ : MethodName) jdk_38_method_20_code 2 (some (.object "java/lang/Object")) R22 #[(.ref a), (.int p1)] h (fun v h' => h = h' ∧ v = some (.ref x)) := by
  refine Own.Con.enter pn_22 (ef_22 a p1) fun D r => ?_
  replace r : A22 l Z n0 D h 0 0 1 #[.val (.ref a), .val (.int p1)] [(.int p1)] := Own.iloadN r d22_0 rfl
  replace r : A22 l Z n0 D h 0 0 2 #[.val (.ref a), .val (.int p1)] [(.ref a), (.int p1)] := Own.aloadN r d22_1 rfl rfl
  replace r : A22 l Z n0 D h 0 0 5 #[.val (.ref a), .val (.int p1)] [(.int (2 : Int32)), (.int p1)] := Own.getfield r d22_2 (host := "") (Or.inl (hw _ (List.mem_of_getElem? (i := 59) rfl))) Via.refl F_size_a
  obtain ⟨rv1, h2, hQ3, r⟩ := Own.callS [(.int p1), (.int (2 : Int32))] r d22_5 (c23 l Z a0 hw n0 h Zs p1 (2 : Int32) hi hi2) (hw _ (List.mem_of_getElem? (i := 135) rfl)) (hw _ (List.mem_of_getElem? (i := 136) rfl)) (hw _ (List.mem_of_getElem? (i := 137) rfl)) (hw _ (List.mem_of_getElem? (i := 138) rfl)) (lenOf pd_22_0 rfl) rfl rfl (W := 0) (Nat.le_of_eq rfl) rfl (by decide) (by decide) (by decide) (by decide) (by decide)
  obtain ⟨rfl, y4, rfl, e_y4⟩ := hQ3
  replace e_y4 : p1 = y4 := e_y4.symm
  subst e_y4
  replace r : A22 l Z n0 D h 0 0 8 #[.val (.ref a), .val (.int p1)] [(.int p1)] := r
  replace r : A22 l Z n0 D h 0 0 9 #[.val (.ref a), .val (.int p1)] [] := Own.pop r d22_8 rfl
  replace r : A22 l Z n0 D h 0 0 10 #[.val (.ref a), .val (.int p1)] [(.ref a)] := Own.aloadN r d22_9 rfl rfl
  replace r : A22 l Z n0 D h 0 0 11 #[.val (.ref a), .val (.int p1)] [(.int p1), (.ref a)] := Own.iloadN r d22_10 rfl
  obtain ⟨rv5, h6, hQ7, r⟩ := Own.callV [(.int p1)] r d22_11 (c25 l Z a0 hw n0 h Zs a p1 ed vs x F_elementData_a V_ed hi hx) X_a (hw _ (List.mem_of_getElem? (i := 143) rfl)) (hw _ (List.mem_of_getElem? (i := 144) rfl)) (Own.nfS (hw _ (List.mem_of_getElem? (i := 146) rfl))) (hw _ (List.mem_of_getElem? (i := 146) rfl)) (hw _ (List.mem_of_getElem? (i := 145) rfl)) (hw _ (List.mem_of_getElem? (i := 4) rfl)) (hw _ (List.mem_of_getElem? (i := 147) rfl)) (lenOf pd_22_1 rfl) rfl rfl (W := 0) (Nat.le_of_eq rfl) rfl (by decide) (by decide) (by decide) (by decide) (by decide)
  obtain ⟨rfl, rfl⟩ := hQ7
  replace r : A22 l Z n0 D h 0 0 14 #[.val (.ref a), .val (.int p1)] [(.ref x)] := r
  exact ⟨_, _, (Own.Rch.retA r d22_14 rfl rfl).more (by decide) (by decide), rfl, rfl⟩
theorem d27_0 : decode jdk_31_method_11_code 0 = .ok (.aload_n 0, 1) := by decide +kernel
theorem d27_1 : decode jdk_31_method_11_code 1 = .ok (.ifnonnull 12, 3) := by decide +kernel
theorem d27_13 : decode jdk_31_method_11_code 13 = .ok (.aload_n 0, 1) := by decide +kernel
theorem d27_14 : decode jdk_31_method_11_code 14 = .ok (.areturn, 1) := by decide +kernel
theorem pn_27 : plainFor (⟨"java/util/Objects", "requireNonNull", "(Ljava/lang/Object;Ljava/lang/String;)Ljava/lang/Object;"⟩ : MethodName) = true := plainFor_of_name (by first | (simp [plainName, overriddenIn, x]; done) | decide +kernel)
theorem ef_27 (x : Addr) (mm : Addr) (m : MethodId) : entryFrame m #[(.ref x), (.ref mm)] 2 = mkF m 0 #[.val (.ref x), .val (.ref mm)] [] := by first | (simp [entryFrame, mkF, argsToLocals, Value.category, maxLocals]; done) | rfl
abbrev R27 : Room := ({ frames := 0, cells := 0, slots := 0, locals := 0 } : Room)
abbrev A27 (l : Launch) (Z : State) (n0 : Nat) (D : Own.Dyn) := Own.Rch l Z n0 R27 (⟨"java/util/Objects", "requireNonNull", "(Ljava/lang/Object;Ljava/lang/String;)Ljava/lang/Object;"⟩ : MethodName) jdk_31_method_11_code 2 (some (.object "java/lang/Object")) D
set_option maxRecDepth 65536 in
set_option maxHeartbeats 40000000 in
theorem c27 (l : Launch) (Z : State) (a0 : Array Value) (hw : ∀ d ∈ tables_1, d.before a0 Z = true) (n0 : Nat) (h : Heap) (Zs : n0 ≤ h.size) (x : Addr) (mm : Addr)  :
    Own.Con l Z n0 (⟨"java/util/Objects", "requireNonNull", "(Ljava/lang/Object;Ljava/lang/String;)Ljava/lang/Object;"⟩ : MethodName) jdk_31_method_11_code 2 (some (.object "java/lang/Object")) R27 #[(.ref x), (.ref mm)] h (fun v h' => h = h' ∧ v = some (.ref x)) := by
  refine Own.Con.enter pn_27 (ef_27 x mm) fun D r => ?_
  replace r : A27 l Z n0 D h 0 0 1 #[.val (.ref x), .val (.ref mm)] [(.ref x)] := Own.aloadN r d27_0 rfl rfl
  replace r : A27 l Z n0 D h 0 0 13 #[.val (.ref x), .val (.ref mm)] [] := Own.ifnonnullYes r d27_1 (by decide) (by decide)
  replace r : A27 l Z n0 D h 0 0 14 #[.val (.ref x), .val (.ref mm)] [(.ref x)] := Own.aloadN r d27_13 rfl rfl
  exact ⟨_, _, (Own.Rch.retA r d27_14 rfl rfl).more (by decide) (by decide), rfl, rfl⟩
theorem own_strs {Z : State} {a0 : Array Value} (hw : ∀ d ∈ tables_1, d.before a0 Z = true) : ∀ a ∈ Bundle.stringAtoms, a.before a0 Z = true := by
  intro a ha
  simp only [Bundle.stringAtoms, List.mem_cons, List.not_mem_nil, or_false] at ha
  rcases ha with rfl | rfl | rfl | rfl | rfl | rfl | rfl <;> first | exact (hw _ (List.mem_of_getElem? (i := 28) rfl)) | exact (hw _ (List.mem_of_getElem? (i := 29) rfl)) | exact (hw _ (List.mem_of_getElem? (i := 30) rfl)) | exact (hw _ (List.mem_of_getElem? (i := 31) rfl)) | exact (hw _ (List.mem_of_getElem? (i := 32) rfl)) | exact (hw _ (List.mem_of_getElem? (i := 33) rfl)) | exact (hw _ (List.mem_of_getElem? (i := 37) rfl)) | exact (hw _ (List.mem_of_getElem? (i := 38) rfl)) | exact (hw _ (List.mem_of_getElem? (i := 39) rfl)) | exact (hw _ (List.mem_of_getElem? (i := 42) rfl)) | exact (hw _ (List.mem_of_getElem? (i := 43) rfl)) | exact (hw _ (List.mem_of_getElem? (i := 44) rfl)) | exact (hw _ (List.mem_of_getElem? (i := 45) rfl)) | exact (hw _ (List.mem_of_getElem? (i := 46) rfl)) | exact (hw _ (List.mem_of_getElem? (i := 47) rfl)) | exact (hw _ (List.mem_of_getElem? (i := 48) rfl)) | exact (hw _ (List.mem_of_getElem? (i := 49) rfl)) | exact (hw _ (List.mem_of_getElem? (i := 50) rfl)) | exact (hw _ (List.mem_of_getElem? (i := 51) rfl)) | exact (hw _ (List.mem_of_getElem? (i := 82) rfl)) | exact (hw _ (List.mem_of_getElem? (i := 83) rfl)) | exact (hw _ (List.mem_of_getElem? (i := 84) rfl)) | exact (hw _ (List.mem_of_getElem? (i := 85) rfl)) | exact (hw _ (List.mem_of_getElem? (i := 86) rfl)) | exact (hw _ (List.mem_of_getElem? (i := 87) rfl)) | exact (hw _ (List.mem_of_getElem? (i := 88) rfl)) | exact (hw _ (List.mem_of_getElem? (i := 89) rfl)) | exact (hw _ (List.mem_of_getElem? (i := 90) rfl)) | exact (hw _ (List.mem_of_getElem? (i := 91) rfl)) | exact (hw _ (List.mem_of_getElem? (i := 98) rfl)) | exact (hw _ (List.mem_of_getElem? (i := 148) rfl)) | exact (hw _ (List.mem_of_getElem? (i := 154) rfl)) | exact (hw _ (List.mem_of_getElem? (i := 155) rfl)) | exact (hw _ (List.mem_of_getElem? (i := 159) rfl)) | exact (hw _ (List.mem_of_getElem? (i := 168) rfl)) | exact (hw _ (List.mem_of_getElem? (i := 172) rfl)) | exact (hw _ (List.mem_of_getElem? (i := 173) rfl)) | exact (hw _ (List.mem_of_getElem? (i := 174) rfl)) | exact (hw _ (List.mem_of_getElem? (i := 175) rfl)) | exact (hw _ (List.mem_of_getElem? (i := 176) rfl))
theorem d26_0 : decode prog_21_method_1_code 0 = .ok (.aload_n 0, 1) := by decide +kernel
theorem d26_1 : decode prog_21_method_1_code 1 = .ok (.invokespecial 1, 3) := by decide +kernel
theorem d26_4 : decode prog_21_method_1_code 4 = .ok (.aload_n 0, 1) := by decide +kernel
theorem d26_5 : decode prog_21_method_1_code 5 = .ok (.aload_n 1, 1) := by decide +kernel
theorem d26_6 : decode prog_21_method_1_code 6 = .ok (.ldc 7, 2) := by decide +kernel
theorem d26_8 : decode prog_21_method_1_code 8 = .ok (.invokestatic 9, 3) := by decide +kernel
theorem d26_11 : decode prog_21_method_1_code 11 = .ok (.checkcast 15, 3) := by decide +kernel
theorem d26_14 : decode prog_21_method_1_code 14 = .ok (.putfield 17, 3) := by decide +kernel
theorem d26_17 : decode prog_21_method_1_code 17 = .ok (.aload_n 0, 1) := by decide +kernel
theorem d26_18 : decode prog_21_method_1_code 18 = .ok (.lload_n 2, 1) := by decide +kernel
theorem d26_19 : decode prog_21_method_1_code 19 = .ok (.putfield 22, 3) := by decide +kernel
theorem d26_22 : decode prog_21_method_1_code 22 = .ok (.return_, 1) := by decide +kernel
theorem pd_26_0 : parseMethodDescriptor "(Ljava/lang/Object;Ljava/lang/String;)Ljava/lang/Object;" = some ⟨[(.object "java/lang/Object"), (.object "java/lang/String")], some (.object "java/lang/Object")⟩ := by decide +kernel
theorem pn_26 : plainFor (⟨"com/example/debit/debit/csv/SourceLine", "<init>", "(Ljava/lang/String;J)V"⟩ : MethodName) = true := plainFor_of_name (by first | (simp [plainName, overriddenIn, x]; done) | decide +kernel)
theorem ef_26 (a : Addr) (x : Addr) (q2 : Int64) (m : MethodId) : entryFrame m #[(.ref a), (.ref x), (.long q2)] 4 = mkF m 0 #[.val (.ref a), .val (.ref x), .val (.long q2), .second] [] := by first | (simp [entryFrame, mkF, argsToLocals, Value.category, maxLocals]; done) | rfl
abbrev R26 : Room := ({ frames := 1, cells := 2, slots := 20, locals := 14 } : Room)
abbrev A26 (l : Launch) (Z : State) (n0 : Nat) (D : Own.Dyn) := Own.Rch l Z n0 R26 (⟨"com/example/debit/debit/csv/SourceLine", "<init>", "(Ljava/lang/String;J)V"⟩ : MethodName) prog_21_method_1_code 4 none D
set_option maxRecDepth 65536 in
set_option maxHeartbeats 40000000 in
theorem c26 (l : Launch) (Z : State) (a0 : Array Value) (hw : ∀ d ∈ tables_1, d.before a0 Z = true) (n0 : Nat) (h : Heap) (Zs : n0 ≤ h.size) (a : Addr) (x : Addr) (q2 : Int64) (u_file u_number : Value) (F_file_a : Fld Z h a "com/example/debit/debit/csv/SourceLine" "file" "Ljava/lang/String;" u_file) (F_number_a : Fld Z h a "com/example/debit/debit/csv/SourceLine" "number" "J" u_number) (X_a : Exa Z h a "com/example/debit/debit/csv/SourceLine") (ge_a : n0 ≤ a) (X_x : Exa Z h x "java/lang/String") :
    Own.ConV l Z n0 (⟨"com/example/debit/debit/csv/SourceLine", "<init>", "(Ljava/lang/String;J)V"⟩ : MethodName) prog_21_method_1_code 4 none R26 #[(.ref a), (.ref x), (.long q2)] h (fun v h' => v = none ∧ Keep h h' [a] ∧ Exa Z h' a "com/example/debit/debit/csv/SourceLine" ∧ Fld Z h' a "com/example/debit/debit/csv/SourceLine" "file" "Ljava/lang/String;" (.ref x) ∧ Fld Z h' a "com/example/debit/debit/csv/SourceLine" "number" "J" (.long q2)) := by
  refine Own.ConV.enter pn_26 (ef_26 a x q2) fun D r => ?_
  have RB := Own.Reb.refl D h
  have K : Keep h h [a] := Keep.refl _ _
  replace r : A26 l Z n0 D h 0 0 1 #[.val (.ref a), .val (.ref x), .val (.long q2), .second] [(.ref a)] := Own.aloadN r d26_0 rfl rfl
  replace r : A26 l Z n0 D h 0 0 4 #[.val (.ref a), .val (.ref x), .val (.long q2), .second] [] := Own.initObj r d26_1 (hw _ (List.mem_of_getElem? (i := 152) rfl)) (hw _ (List.mem_of_getElem? (i := 21) rfl)) (hw _ (List.mem_of_getElem? (i := 22) rfl)) rfl (by decide) (W := 0) (Nat.le_of_eq rfl) (by decide)
  replace r : A26 l Z n0 D h 0 0 5 #[.val (.ref a), .val (.ref x), .val (.long q2), .second] [(.ref a)] := Own.aloadN r d26_4 rfl rfl
  replace r : A26 l Z n0 D h 0 0 6 #[.val (.ref a), .val (.ref x), .val (.long q2), .second] [(.ref x), (.ref a)] := Own.aloadN r d26_5 rfl rfl
  obtain ⟨D1, h1, b1, RB, E1, r⟩ := Own.ldcStr r RB d26_6 (hw _ (List.mem_of_getElem? (i := 153) rfl)) (own_strs hw) (nn := 16) (by decide) (by decide) (by decide) (by decide)
  replace F_file_a := F_file_a.ext E1
  replace F_number_a := F_number_a.ext E1
  replace X_a := X_a.ext E1
  replace X_x := X_x.ext E1
  replace Zs := Nat.le_trans Zs E1.1
  try replace RB := RB.grow E1.1
  replace K := K.ext E1
  replace r : A26 l Z n0 D1 h1 2 20 8 #[.val (.ref a), .val (.ref x), .val (.long q2), .second] [(.ref b1), (.ref x), (.ref a)] := r
  obtain ⟨rv2, h3, hQ4, r⟩ := Own.callS [(.ref x), (.ref b1)] r d26_8 (c27 l Z a0 hw n0 h1 Zs x b1) (hw _ (List.mem_of_getElem? (i := 156) rfl)) (hw _ (List.mem_of_getElem? (i := 157) rfl)) (hw _ (List.mem_of_getElem? (i := 137) rfl)) (hw _ (List.mem_of_getElem? (i := 158) rfl)) (lenOf pd_26_0 rfl) rfl rfl (W := 1) (Nat.le_of_eq rfl) rfl (by decide) (by decide) (by decide) (by decide) (by decide)
  obtain ⟨rfl, rfl⟩ := hQ4
  replace r : A26 l Z n0 D1 h1 2 20 11 #[.val (.ref a), .val (.ref x), .val (.long q2), .second] [(.ref x), (.ref a)] := r
  replace r : A26 l Z n0 D1 h1 2 20 14 #[.val (.ref a), .val (.ref x), .val (.long q2), .second] [(.ref x), (.ref a)] := Own.castYes r d26_11 (hw _ (List.mem_of_getElem? (i := 159) rfl)) (Ins.self X_x)
  obtain ⟨h6, W5, r⟩ := Own.putfield r d26_14 (host := "") (Or.inl (hw _ (List.mem_of_getElem? (i := 160) rfl))) Via.refl F_file_a X_a (Or.inr ⟨(hw _ (List.mem_of_getElem? (i := 161) rfl)), rfl, rfl⟩) (hw _ (List.mem_of_getElem? (i := 124) rfl)) (ty := (.object "java/lang/String")) (by decide) rfl rfl ge_a
  replace r : A26 l Z n0 D1 h6 2 20 17 #[.val (.ref a), .val (.ref x), .val (.long q2), .second] [] := r
  replace F_file_a := F_file_a.same W5
  replace F_number_a := F_number_a.other W5 (Or.inr (slot_ne (Or.inr (hw _ (List.mem_of_getElem? (i := 163) rfl))) (Or.inr (hw _ (List.mem_of_getElem? (i := 161) rfl))) (by decide) (t := .long) (t' := (.object "java/lang/String")) (by decide) (by decide)))
  replace X_a := X_a.wr W5
  replace X_x := X_x.wr W5
  replace Zs := Nat.le_trans Zs (Nat.le_of_eq W5.size.symm)
  replace RB := RB.grow (Nat.le_of_eq W5.size.symm)
  replace K := K.wr W5 (Or.inl (by simp))
  replace r : A26 l Z n0 D1 h6 2 20 18 #[.val (.ref a), .val (.ref x), .val (.long q2), .second] [(.ref a)] := Own.aloadN r d26_17 rfl rfl
  replace r : A26 l Z n0 D1 h6 2 20 19 #[.val (.ref a), .val (.ref x), .val (.long q2), .second] [(.long q2), (.ref a)] := Own.lloadN r d26_18 rfl
  obtain ⟨h8, W7, r⟩ := Own.putfield r d26_19 (host := "") (Or.inl (hw _ (List.mem_of_getElem? (i := 162) rfl))) Via.refl F_number_a X_a (Or.inr ⟨(hw _ (List.mem_of_getElem? (i := 163) rfl)), rfl, rfl⟩) (hw _ (List.mem_of_getElem? (i := 124) rfl)) (ty := .long) (by decide) rfl rfl ge_a
  replace r : A26 l Z n0 D1 h8 2 20 22 #[.val (.ref a), .val (.ref x), .val (.long q2), .second] [] := r
  replace F_file_a := F_file_a.other W7 (Or.inr (slot_ne (Or.inr (hw _ (List.mem_of_getElem? (i := 161) rfl))) (Or.inr (hw _ (List.mem_of_getElem? (i := 163) rfl))) (by decide) (t := (.object "java/lang/String")) (t' := .long) (by decide) (by decide)))
  replace F_number_a := F_number_a.same W7
  replace X_a := X_a.wr W7
  replace X_x := X_x.wr W7
  replace Zs := Nat.le_trans Zs (Nat.le_of_eq W7.size.symm)
  replace RB := RB.grow (Nat.le_of_eq W7.size.symm)
  replace K := K.wr W7 (Or.inl (by simp))
  exact ⟨_, _, _, RB, (Own.Rch.ret0 r d26_22).more (by decide) (by decide), rfl, K, X_a, F_file_a, F_number_a⟩
theorem d21_0 : decode prog_40_method_3_code 0 = .ok (.new 27, 3) := by decide +kernel
theorem d21_3 : decode prog_40_method_3_code 3 = .ok (.dup, 1) := by decide +kernel
theorem d21_4 : decode prog_40_method_3_code 4 = .ok (.aload_n 0, 1) := by decide +kernel
theorem d21_5 : decode prog_40_method_3_code 5 = .ok (.getfield 11, 3) := by decide +kernel
theorem d21_8 : decode prog_40_method_3_code 8 = .ok (.lload_n 1, 1) := by decide +kernel
theorem d21_9 : decode prog_40_method_3_code 9 = .ok (.bipush 44, 2) := by decide +kernel
theorem d21_11 : decode prog_40_method_3_code 11 = .ok (.lushr, 1) := by decide +kernel
theorem d21_12 : decode prog_40_method_3_code 12 = .ok (.l2i, 1) := by decide +kernel
theorem d21_13 : decode prog_40_method_3_code 13 = .ok (.invokeinterface 29 2, 5) := by decide +kernel
theorem d21_18 : decode prog_40_method_3_code 18 = .ok (.checkcast 35, 3) := by decide +kernel
theorem d21_21 : decode prog_40_method_3_code 21 = .ok (.lload_n 1, 1) := by decide +kernel
theorem d21_22 : decode prog_40_method_3_code 22 = .ok (.ldc2_w 15, 3) := by decide +kernel
theorem d21_25 : decode prog_40_method_3_code 25 = .ok (.land, 1) := by decide +kernel
theorem d21_26 : decode prog_40_method_3_code 26 = .ok (.invokespecial 37, 3) := by decide +kernel
theorem d21_29 : decode prog_40_method_3_code 29 = .ok (.areturn, 1) := by decide +kernel
theorem pd_21_0 : parseMethodDescriptor "(I)Ljava/lang/Object;" = some ⟨[.int], some (.object "java/lang/Object")⟩ := by decide +kernel
theorem pd_21_1 : parseMethodDescriptor "(Ljava/lang/String;J)V" = some ⟨[(.object "java/lang/String"), .long], none⟩ := by decide +kernel
theorem pn_21 : plainFor (⟨"com/example/debit/debit/metering/PackedLines", "unpack", "(J)Lcom/example/debit/debit/csv/SourceLine;"⟩ : MethodName) = true := plainFor_of_name (by first | (simp [plainName, overriddenIn, x]; done) | decide +kernel)
theorem ef_21 (a : Addr) (q1 : Int64) (m : MethodId) : entryFrame m #[(.ref a), (.long q1)] 3 = mkF m 0 #[.val (.ref a), .val (.long q1), .second] [] := by first | (simp [entryFrame, mkF, argsToLocals, Value.category, maxLocals]; done) | rfl
abbrev R21 : Room := ({ frames := 3, cells := 3, slots := 22, locals := 42 } : Room)
abbrev A21 (l : Launch) (Z : State) (n0 : Nat) (D : Own.Dyn) := Own.Rch l Z n0 R21 (⟨"com/example/debit/debit/metering/PackedLines", "unpack", "(J)Lcom/example/debit/debit/csv/SourceLine;"⟩ : MethodName) prog_40_method_3_code 3 (some (.object "com/example/debit/debit/csv/SourceLine")) D
set_option maxRecDepth 65536 in
set_option maxHeartbeats 40000000 in
theorem c21 (l : Launch) (Z : State) (a0 : Array Value) (hw : ∀ d ∈ tables_1, d.before a0 Z = true) (n0 : Nat) (h : Heap) (Zs : n0 ≤ h.size) (a : Addr) (q1 : Int64) (al ed x : Addr) (vs : List Value) (i : Int32) (F_files_a : Fld Z h a "com/example/debit/debit/metering/PackedLines" "files" "Ljava/util/List;" (.ref al)) (X_al : Exa Z h al "java/util/ArrayList") (F_elementData_al : Fld Z h al "java/util/ArrayList" "elementData" "[Ljava/lang/Object;" (.ref ed)) (F_size_al : Fld Z h al "java/util/ArrayList" "size" "I" (.int 2)) (V_ed : Own.VA Z h ed (.object "java/lang/Object") vs) (X_x : Exa Z h x "java/lang/String") (ei : (Own.lushrW q1 (44 : Int32)).toInt32 = i) (hi : ¬ i < (0 : Int32)) (hi2 : i < (2 : Int32)) (hx : vs[i.toNatClampNeg]? = some (.ref x)) :
    Own.ConV l Z n0 (⟨"com/example/debit/debit/metering/PackedLines", "unpack", "(J)Lcom/example/debit/debit/csv/SourceLine;"⟩ : MethodName) prog_40_method_3_code 3 (some (.object "com/example/debit/debit/csv/SourceLine")) R21 #[(.ref a), (.long q1)] h (fun v h' => ∃ b, v = some (.ref b) ∧ h.size ≤ b ∧ Keep h h' [] ∧ Exa Z h' b "com/example/debit/debit/csv/SourceLine" ∧ Fld Z h' b "com/example/debit/debit/csv/SourceLine" "file" "Ljava/lang/String;" (.ref x) ∧ Fld Z h' b "com/example/debit/debit/csv/SourceLine" "number" "J" (.long (q1 &&& (17592186044415 : Int64)))) := by
  refine Own.ConV.enter pn_21 (ef_21 a q1) fun D r => ?_
  have RB := Own.Reb.refl D h
  have K : Keep h h [] := Keep.refl _ _
  obtain ⟨h1, ⟨E1, X_b1, D1⟩, r⟩ := Own.newObj r d21_0 (hw _ (List.mem_of_getElem? (i := 123) rfl)) (hw _ (List.mem_of_getElem? (i := 124) rfl)) (hw _ (List.mem_of_getElem? (i := 125) rfl)) (by decide) (by decide)
  obtain ⟨b1, g1⟩ : ∃ z, z = h.size := ⟨_, rfl⟩
  rw [← g1] at X_b1 D1 r
  have ge_b1 : n0 ≤ b1 := Nat.le_trans Zs (Nat.le_of_eq g1.symm)
  have sz_b1 : h.size ≤ b1 := Nat.le_trans K.1 (Nat.le_of_eq g1.symm)
  have ne_a_b1 : a ≠ b1 := Own.ne_lt F_files_a.lt g1
  have ne_al_b1 : al ≠ b1 := Own.ne_lt X_al.lt g1
  have ne_ed_b1 : ed ≠ b1 := Own.ne_lt V_ed.lt g1
  have ne_x_b1 : x ≠ b1 := Own.ne_lt X_x.lt g1
  replace F_files_a := F_files_a.ext E1
  replace X_al := X_al.ext E1
  replace F_elementData_al := F_elementData_al.ext E1
  replace F_size_al := F_size_al.ext E1
  replace V_ed := V_ed.ext E1
  replace X_x := X_x.ext E1
  replace Zs := Nat.le_trans Zs E1.1
  try replace RB := RB.grow E1.1
  replace K := K.ext E1
  replace r : A21 l Z n0 D h1 1 2 3 #[.val (.ref a), .val (.long q1), .second] [(.ref b1)] := r
  have F_file_b1 : Fld Z h1 b1 "com/example/debit/debit/csv/SourceLine" "file" "Ljava/lang/String;" .null := D1 (Or.inr (hw _ (List.mem_of_getElem? (i := 161) rfl))) (ty := (.object "java/lang/String")) (by decide)
  have F_number_b1 : Fld Z h1 b1 "com/example/debit/debit/csv/SourceLine" "number" "J" (.long (0 : Int64)) := D1 (Or.inr (hw _ (List.mem_of_getElem? (i := 163) rfl))) (ty := .long) (by decide)
  replace r : A21 l Z n0 D h1 1 2 4 #[.val (.ref a), .val (.long q1), .second] [(.ref b1), (.ref b1)] := Own.dup r d21_3 rfl
  replace r : A21 l Z n0 D h1 1 2 5 #[.val (.ref a), .val (.long q1), .second] [(.ref a), (.ref b1), (.ref b1)] := Own.aloadN r d21_4 rfl rfl
  replace r : A21 l Z n0 D h1 1 2 8 #[.val (.ref a), .val (.long q1), .second] [(.ref al), (.ref b1), (.ref b1)] := Own.getfield r d21_5 (host := "") (Or.inl (hw _ (List.mem_of_getElem? (i := 108) rfl))) Via.refl F_files_a
  replace r : A21 l Z n0 D h1 1 2 9 #[.val (.ref a), .val (.long q1), .second] [(.long q1), (.ref al), (.ref b1), (.ref b1)] := Own.lloadN r d21_8 rfl
  replace r : A21 l Z n0 D h1 1 2 11 #[.val (.ref a), .val (.long q1), .second] [(.int (44 : Int32)), (.long q1), (.ref al), (.ref b1), (.ref b1)] := Own.bipush r d21_9 rfl
  replace r : A21 l Z n0 D h1 1 2 12 #[.val (.ref a), .val (.long q1), .second] [(.long (Own.lushrW q1 (44 : Int32))), (.ref al), (.ref b1), (.ref b1)] := Own.lushr r d21_11
  replace r : A21 l Z n0 D h1 1 2 13 #[.val (.ref a), .val (.long q1), .second] [(.int (Own.lushrW q1 (44 : Int32)).toInt32), (.ref al), (.ref b1), (.ref b1)] := Own.l2i r d21_12
  rw [ei] at r
  replace r : A21 l Z n0 D h1 1 2 13 #[.val (.ref a), .val (.long q1), .second] [(.int i), (.ref al), (.ref b1), (.ref b1)] := r
  obtain ⟨rv2, h3, hQ4, r⟩ := Own.callF [(.int i)] r d21_13 (c22 l Z a0 hw n0 h1 Zs al i ed vs x F_elementData_al V_ed hi hx F_size_al X_al hi2) X_al (hw _ (List.mem_of_getElem? (i := 126) rfl)) (hw _ (List.mem_of_getElem? (i := 127) rfl)) (hw _ (List.mem_of_getElem? (i := 128) rfl)) (by first | rfl | simp [Cond.onTables, Cond.keepsFace, Cond.keeps, Cond.steady]) (hw _ (List.mem_of_getElem? (i := 129) rfl)) (hw _ (List.mem_of_getElem? (i := 130) rfl)) (hw _ (List.mem_of_getElem? (i := 131) rfl)) (hw _ (List.mem_of_getElem? (i := 132) rfl)) (hw _ (List.mem_of_getElem? (i := 133) rfl)) (hw _ (List.mem_of_getElem? (i := 4) rfl)) (hw _ (List.mem_of_getElem? (i := 134) rfl)) (lenOf pd_21_0 rfl) rfl rfl (W := 2) (Nat.le_of_eq rfl) rfl (by decide) (by decide) (by decide) (by decide) (by decide)
  obtain ⟨rfl, rfl⟩ := hQ4
  replace r : A21 l Z n0 D h1 1 2 18 #[.val (.ref a), .val (.long q1), .second] [(.ref x), (.ref b1), (.ref b1)] := r
  replace r : A21 l Z n0 D h1 1 2 21 #[.val (.ref a), .val (.long q1), .second] [(.ref x), (.ref b1), (.ref b1)] := Own.castYes r d21_18 (hw _ (List.mem_of_getElem? (i := 148) rfl)) (Ins.self X_x)
  replace r : A21 l Z n0 D h1 1 2 22 #[.val (.ref a), .val (.long q1), .second] [(.long q1), (.ref x), (.ref b1), (.ref b1)] := Own.lloadN r d21_21 rfl
  replace r : A21 l Z n0 D h1 1 2 25 #[.val (.ref a), .val (.long q1), .second] [(.long (17592186044415 : Int64)), (.long q1), (.ref x), (.ref b1), (.ref b1)] := Own.ldcJ r d21_22 (hw _ (List.mem_of_getElem? (i := 115) rfl))
  replace r : A21 l Z n0 D h1 1 2 26 #[.val (.ref a), .val (.long q1), .second] [(.long (q1 &&& (17592186044415 : Int64))), (.ref x), (.ref b1), (.ref b1)] := Own.land r d21_25
  obtain ⟨D8, rv5, h6, hQ7, RB, r⟩ := Own.callIV [(.ref x), (.long (q1 &&& (17592186044415 : Int64)))] r RB d21_26 (c26 l Z a0 hw n0 h1 Zs b1 x (q1 &&& (17592186044415 : Int64)) _ _ F_file_b1 F_number_b1 X_b1 ge_b1 X_x) (hw _ (List.mem_of_getElem? (i := 149) rfl)) (hw _ (List.mem_of_getElem? (i := 150) rfl)) (hw _ (List.mem_of_getElem? (i := 125) rfl)) (hw _ (List.mem_of_getElem? (i := 151) rfl)) rfl (lenOf pd_21_1 rfl) rfl rfl (W := 1) (Nat.le_of_eq rfl) rfl (by decide) (by decide) (by decide) (by decide) (by decide)
  obtain ⟨rfl, K9, X_b1, F_file_b1, F_number_b1⟩ := hQ7
  replace F_files_a := F_files_a.keep K9 (by simp [ne_a_b1])
  replace X_al := X_al.keep K9
  replace F_elementData_al := F_elementData_al.keep K9 (by simp [ne_al_b1])
  replace F_size_al := F_size_al.keep K9 (by simp [ne_al_b1])
  replace V_ed := V_ed.keep K9 (by simp [ne_ed_b1])
  replace X_x := X_x.keep K9
  replace Zs := Nat.le_trans Zs K9.1
  replace K := K.trans K9 (by simp [sz_b1])
  replace r : A21 l Z n0 D8 h6 3 22 29 #[.val (.ref a), .val (.long q1), .second] [(.ref b1)] := r
  exact ⟨_, _, _, RB, (Own.Rch.retA r d21_29 rfl rfl).more (by decide) (by decide), b1, rfl, sz_b1, K, X_b1, F_file_b1, F_number_b1⟩
theorem d28_0 : decode prog_21_method_2_code 0 = .ok (.aload_n 0, 1) := by decide +kernel
theorem d28_1 : decode prog_21_method_2_code 1 = .ok (.getfield 17, 3) := by decide +kernel
theorem d28_4 : decode prog_21_method_2_code 4 = .ok (.areturn, 1) := by decide +kernel
theorem pn_28 : plainFor (⟨"com/example/debit/debit/csv/SourceLine", "file", "()Ljava/lang/String;"⟩ : MethodName) = true := plainFor_of_name (by first | (simp [plainName, overriddenIn, x]; done) | decide +kernel)
theorem ef_28 (a : Addr) (m : MethodId) : entryFrame m #[(.ref a)] 1 = mkF m 0 #[.val (.ref a)] [] := by first | (simp [entryFrame, mkF, argsToLocals, Value.category, maxLocals]; done) | rfl
abbrev R28 : Room := ({ frames := 0, cells := 0, slots := 0, locals := 0 } : Room)
abbrev A28 (l : Launch) (Z : State) (n0 : Nat) (D : Own.Dyn) := Own.Rch l Z n0 R28 (⟨"com/example/debit/debit/csv/SourceLine", "file", "()Ljava/lang/String;"⟩ : MethodName) prog_21_method_2_code 1 (some (.object "java/lang/String")) D
set_option maxRecDepth 65536 in
set_option maxHeartbeats 40000000 in
theorem c28 (l : Launch) (Z : State) (a0 : Array Value) (hw : ∀ d ∈ tables_1, d.before a0 Z = true) (n0 : Nat) (h : Heap) (Zs : n0 ≤ h.size) (a : Addr) (x : Addr) (F_file_a : Fld Z h a "com/example/debit/debit/csv/SourceLine" "file" "Ljava/lang/String;" (.ref x)) :
    Own.Con l Z n0 (⟨"com/example/debit/debit/csv/SourceLine", "file", "()Ljava/lang/String;"⟩ : MethodName) prog_21_method_2_code 1 (some (.object "java/lang/String")) R28 #[(.ref a)] h (fun v h' => h = h' ∧ v = some (.ref x)) := by
  refine Own.Con.enter pn_28 (ef_28 a) fun D r => ?_
  replace r : A28 l Z n0 D h 0 0 1 #[.val (.ref a)] [(.ref a)] := Own.aloadN r d28_0 rfl rfl
  replace r : A28 l Z n0 D h 0 0 4 #[.val (.ref a)] [(.ref x)] := Own.getfield r d28_1 (host := "") (Or.inl (hw _ (List.mem_of_getElem? (i := 160) rfl))) Via.refl F_file_a
  exact ⟨_, _, (Own.Rch.retA r d28_4 rfl rfl).more (by decide) (by decide), rfl, rfl⟩
theorem d30_0 : decode prog_21_method_3_code 0 = .ok (.aload_n 0, 1) := by decide +kernel
theorem d30_1 : decode prog_21_method_3_code 1 = .ok (.getfield 22, 3) := by decide +kernel
theorem d30_4 : decode prog_21_method_3_code 4 = .ok (.lreturn, 1) := by decide +kernel
theorem pn_30 : plainFor (⟨"com/example/debit/debit/csv/SourceLine", "number", "()J"⟩ : MethodName) = true := plainFor_of_name (by first | (simp [plainName, overriddenIn, x]; done) | decide +kernel)
theorem ef_30 (a0_ : Addr) (m : MethodId) : entryFrame m #[(.ref a0_)] 1 = mkF m 0 #[.val (.ref a0_)] [] := by first | (simp [entryFrame, mkF, argsToLocals, Value.category, maxLocals]; done) | rfl
abbrev R30 : Room := ({ frames := 0, cells := 0, slots := 0, locals := 0 } : Room)
abbrev A30 (l : Launch) (Z : State) (n0 : Nat) (D : Own.Dyn) := Own.Rch l Z n0 R30 (⟨"com/example/debit/debit/csv/SourceLine", "number", "()J"⟩ : MethodName) prog_21_method_3_code 1 (some .long) D
def S30 (nb : Int64) (w : Int64) : Prop := w = nb
set_option maxRecDepth 65536 in
set_option maxHeartbeats 40000000 in
theorem c30 (l : Launch) (Z : State) (a0 : Array Value) (hw : ∀ d ∈ tables_1, d.before a0 Z = true) (n0 : Nat) (h : Heap) (Zs : n0 ≤ h.size) (a0_ : Addr) (nb : Int64) (F_number_a0_ : Fld Z h a0_ "com/example/debit/debit/csv/SourceLine" "number" "J" (.long nb)) :
    Own.Con l Z n0 (⟨"com/example/debit/debit/csv/SourceLine", "number", "()J"⟩ : MethodName) prog_21_method_3_code 1 (some .long) R30 #[(.ref a0_)] h (fun v h' => h = h' ∧ ∃ w : Int64, v = some (.long w) ∧ S30 nb w) := by
  refine Own.Con.enter pn_30 (ef_30 a0_) fun D r => ?_
  replace r : A30 l Z n0 D h 0 0 1 #[.val (.ref a0_)] [(.ref a0_)] := Own.aloadN r d30_0 rfl rfl
  replace r : A30 l Z n0 D h 0 0 4 #[.val (.ref a0_)] [(.long nb)] := Own.getfield r d30_1 (host := "") (Or.inl (hw _ (List.mem_of_getElem? (i := 162) rfl))) Via.refl F_number_a0_
  exact ⟨_, _, (Own.Rch.retJ r d30_4).more (by decide) (by decide), rfl, _, rfl, rfl⟩
theorem d29_0 : decode jdk_42_method_66_code 0 = .ok (.aload_n 0, 1) := by decide +kernel
theorem d29_1 : decode jdk_42_method_66_code 1 = .ok (.aload_n 1, 1) := by decide +kernel
theorem d29_2 : decode jdk_42_method_66_code 2 = .ok (.if_acmp .ne 5, 3) := by decide +kernel
theorem d29_5 : decode jdk_42_method_66_code 5 = .ok (.iconst 1, 1) := by decide +kernel
theorem d29_6 : decode jdk_42_method_66_code 6 = .ok (.ireturn, 1) := by decide +kernel
theorem pn_29 : plainFor (⟨"java/lang/String", "equals", "(Ljava/lang/Object;)Z"⟩ : MethodName) = true := plainFor_of_name (by first | (simp [plainName, overriddenIn, x]; done) | decide +kernel)
theorem ef_29 (a : Addr) (b : Addr) (m : MethodId) : entryFrame m #[(.ref a), (.ref b)] 3 = mkF m 0 #[.val (.ref a), .val (.ref b), .unset] [] := by first | (simp [entryFrame, mkF, argsToLocals, Value.category, maxLocals]; done) | rfl
abbrev R29 : Room := ({ frames := 0, cells := 0, slots := 0, locals := 0 } : Room)
abbrev A29 (l : Launch) (Z : State) (n0 : Nat) (D : Own.Dyn) := Own.Rch l Z n0 R29 (⟨"java/lang/String", "equals", "(Ljava/lang/Object;)Z"⟩ : MethodName) jdk_42_method_66_code 3 (some .boolean) D
set_option maxRecDepth 65536 in
set_option maxHeartbeats 40000000 in
theorem c29 (l : Launch) (Z : State) (a0 : Array Value) (hw : ∀ d ∈ tables_1, d.before a0 Z = true) (n0 : Nat) (h : Heap) (Zs : n0 ≤ h.size) (a : Addr) (b : Addr) (e1 : a = b) :
    Own.Con l Z n0 (⟨"java/lang/String", "equals", "(Ljava/lang/Object;)Z"⟩ : MethodName) jdk_42_method_66_code 3 (some .boolean) R29 #[(.ref a), (.ref b)] h (fun v h' => h = h' ∧ v = some (.int 1)) := by
  refine Own.Con.enter pn_29 (ef_29 a b) fun D r => ?_
  subst e1
  replace r : A29 l Z n0 D h 0 0 1 #[.val (.ref a), .val (.ref a), .unset] [(.ref a)] := Own.aloadN r d29_0 rfl rfl
  replace r : A29 l Z n0 D h 0 0 2 #[.val (.ref a), .val (.ref a), .unset] [(.ref a), (.ref a)] := Own.aloadN r d29_1 rfl rfl
  replace r : A29 l Z n0 D h 0 0 5 #[.val (.ref a), .val (.ref a), .unset] [] := Own.acmp r d29_2 rfl rfl (same := true) (by simp) (by decide) rfl
  replace r : A29 l Z n0 D h 0 0 6 #[.val (.ref a), .val (.ref a), .unset] [(.int (1 : Int32))] := Own.iconst r d29_5 rfl
  exact ⟨_, _, (Own.Rch.retZ r d29_6 (by decide)).more (by decide) (by decide), rfl, rfl⟩
theorem own_stat {s : State} {args : Array Value} (hs : ∀ w ∈ jdkStatics_1, w.before args s = true) (hw : ∀ d ∈ tables_1, d.before args s = true) : ∃ (dz : Addr) (cs : Int32), (Sta s s.heap "java/util/ArrayList" "DEFAULTCAPACITY_EMPTY_ELEMENTDATA" "[Ljava/lang/Object;" (.ref dz) ∧ Own.VA s s.heap dz (.object "java/lang/Object") []) ∧ Sta s s.heap "java/lang/String" "COMPACT_STRINGS" "Z" (.int cs) ∧ ¬ cs = 0 := by
  have h6 := Cond.before_iff.mp (hs _ (List.mem_of_getElem? (i := 6) rfl))
  obtain ⟨ca, e2⟩ := arr_v h6
  have S2 := Sta.start e2 (Or.inr ⟨hw _ (List.mem_of_getElem? (i := 4) rfl), hs _ (List.mem_of_getElem? (i := 2) rfl)⟩)
  obtain ⟨cell, A⟩ := Arr.start e2 h6
  obtain ⟨hsz, hsize⟩ := Jvm.Free.IntBox.length_fwd (hs _ (List.mem_of_getElem? (i := 8) rfl)) e2 A.1 A.2.1 A.2.2
  have h0 : cell.slots.size = 0 := by
    have q := congrArg Int32.toInt hsize
    rw [len_toInt hsz] at q
    have : (0 : Int32).toInt = 0 := rfl
    omega
  obtain ⟨cs, e3⟩ := is_v (Cond.before_iff.mp (hs _ (List.mem_of_getElem? (i := 10) rfl)))
  have S3 := Sta.start e3 (Or.inl (hs _ (List.mem_of_getElem? (i := 9) rfl)))
  refine ⟨ca, cs, ⟨S2, cell, A, Array.eq_empty_of_size_eq_zero h0, by decide⟩, S3, fun q => ?_⟩
  have h11 := Cond.before_iff.mp (hs _ (List.mem_of_getElem? (i := 11) rfl))
  subst q
  have q0 : (Term.int (0 : Int32)).eval args s none [] s = some (.int 0) := rfl
  simp [Cond.value, e3, q0] at h11

theorem pd_0_0 : parseMethodDescriptor "()V" = some ⟨[], none⟩ := by decide +kernel
theorem pd_0_1 : parseMethodDescriptor "(C)Ljava/lang/String;" = some ⟨[.char], some (.object "java/lang/String")⟩ := by decide +kernel
theorem pd_0_2 : parseMethodDescriptor "(Ljava/lang/Object;)Z" = some ⟨[(.object "java/lang/Object")], some .boolean⟩ := by decide +kernel
theorem pd_0_3 : parseMethodDescriptor "([C)V" = some ⟨[(.array .char)], none⟩ := by decide +kernel
theorem pd_0_4 : parseMethodDescriptor "(Ljava/util/List;)V" = some ⟨[(.object "java/util/List")], none⟩ := by decide +kernel
theorem pd_0_5 : parseMethodDescriptor "(IJ)J" = some ⟨[.int, .long], some .long⟩ := by decide +kernel
theorem pd_0_6 : parseMethodDescriptor "(J)Lcom/example/debit/debit/csv/SourceLine;" = some ⟨[.long], some (.object "com/example/debit/debit/csv/SourceLine")⟩ := by decide +kernel
theorem pd_0_7 : parseMethodDescriptor "()Ljava/lang/String;" = some ⟨[], some (.object "java/lang/String")⟩ := by decide +kernel
theorem pd_0_8 : parseMethodDescriptor "(I)Ljava/lang/Object;" = some ⟨[.int], some (.object "java/lang/Object")⟩ := by decide +kernel
theorem pd_0_9 : parseMethodDescriptor "()J" = some ⟨[], some .long⟩ := by decide +kernel
theorem pn_0 : plainFor x = true := plainFor_of_name (by first | (simp [plainName, overriddenIn, x]; done) | decide +kernel)
theorem ef_0 (p0 : Int32) (q1 : Int64) (p2 : Int32) (p3 : Int32) (m : MethodId) : entryFrame m #[(.int p0), (.long q1), (.int p2), (.int p3)] maxLocals = mkF m 0 #[.val (.int p0), .val (.long q1), .second, .val (.int p2), .val (.int p3), .unset, .unset, .unset, .unset, .unset, .unset, .unset, .unset, .unset, .unset, .unset, .unset, .unset] [] := by first | (simp [entryFrame, mkF, argsToLocals, Value.category, maxLocals]; done) | rfl
abbrev R0 : Room := room_1
abbrev A0 (l : Launch) (Z : State) (n0 : Nat) (D : Own.Dyn) := Own.Rch l Z n0 R0 x code maxLocals ret D
set_option maxRecDepth 65536 in
set_option maxHeartbeats 40000000 in
theorem c0 (l : Launch) (Z : State) (a0 : Array Value) (hw : ∀ d ∈ tables_1, d.before a0 Z = true) (n0 : Nat) (h : Heap) (Zs : n0 ≤ h.size) (p0 : Int32) (q1 : Int64) (p2 : Int32) (p3 : Int32) (O : Old Z n0 h) (dz : Addr) (hD : Sta Z Z.heap "java/util/ArrayList" "DEFAULTCAPACITY_EMPTY_ELEMENTDATA" "[Ljava/lang/Object;" (.ref dz) ∧ Own.VA Z Z.heap dz (.object "java/lang/Object") []) (cs : Int32) (hC : Sta Z Z.heap "java/lang/String" "COMPACT_STRINGS" "Z" (.int cs)) (hcs : ¬ cs = 0) :
    Own.ConW l Z n0 x code maxLocals ret R0 #[(.int p0), (.long q1), (.int p2), (.int p3)] h (fun v h' => v = some (.int 1)) := by
  refine Own.ConW.enter pn_0 (ef_0 p0 q1 p2 p3) fun D r => ?_
  have RB := Own.Reb.refl D h
  replace r : A0 l Z n0 D h 0 0 1 #[.val (.int p0), .val (.long q1), .second, .val (.int p2), .val (.int p3), .unset, .unset, .unset, .unset, .unset, .unset, .unset, .unset, .unset, .unset, .unset, .unset, .unset] [(.int p0)] := Own.iloadN r at_0 rfl
  replace r : A0 l Z n0 D h 0 0 3 #[.val (.int p0), .val (.long q1), .second, .val (.int p2), .val (.int p3), .unset, .unset, .unset, .unset, .unset, .unset, .unset, .unset, .unset, .unset, .unset, .unset, .unset] [(.int (524287 : Int32)), (.int p0)] := Own.ldcI r at_1 (hw _ (List.mem_of_getElem? (i := 0) rfl))
  replace r : A0 l Z n0 D h 0 0 4 #[.val (.int p0), .val (.long q1), .second, .val (.int p2), .val (.int p3), .unset, .unset, .unset, .unset, .unset, .unset, .unset, .unset, .unset, .unset, .unset, .unset, .unset] [(.int (p0 &&& (524287 : Int32)))] := Own.iand r at_3
  obtain ⟨v5_1, e_v5_1⟩ : ∃ z : Int32, z = (p0 &&& (524287 : Int32)) := ⟨_, rfl⟩
  replace r : A0 l Z n0 D h 0 0 4 #[.val (.int p0), .val (.long q1), .second, .val (.int p2), .val (.int p3), .unset, .unset, .unset, .unset, .unset, .unset, .unset, .unset, .unset, .unset, .unset, .unset, .unset] [(.int v5_1)] := by rw [e_v5_1]; exact r
  replace r : A0 l Z n0 D h 0 0 6 #[.val (.int p0), .val (.long q1), .second, .val (.int p2), .val (.int p3), .val (.int v5_1), .unset, .unset, .unset, .unset, .unset, .unset, .unset, .unset, .unset, .unset, .unset, .unset] [] := Own.istore r at_4 rfl
  replace r : A0 l Z n0 D h 0 0 7 #[.val (.int p0), .val (.long q1), .second, .val (.int p2), .val (.int p3), .val (.int v5_1), .unset, .unset, .unset, .unset, .unset, .unset, .unset, .unset, .unset, .unset, .unset, .unset] [(.long q1)] := Own.lloadN r at_6 rfl
  replace r : A0 l Z n0 D h 0 0 10 #[.val (.int p0), .val (.long q1), .second, .val (.int p2), .val (.int p3), .val (.int v5_1), .unset, .unset, .unset, .unset, .unset, .unset, .unset, .unset, .unset, .unset, .unset, .unset] [(.long (17592186044415 : Int64)), (.long q1)] := Own.ldcJ r at_7 (hw _ (List.mem_of_getElem? (i := 1) rfl))
  replace r : A0 l Z n0 D h 0 0 11 #[.val (.int p0), .val (.long q1), .second, .val (.int p2), .val (.int p3), .val (.int v5_1), .unset, .unset, .unset, .unset, .unset, .unset, .unset, .unset, .unset, .unset, .unset, .unset] [(.long (q1 &&& (17592186044415 : Int64)))] := Own.land r at_10
  obtain ⟨v6_2, e_v6_2⟩ : ∃ z : Int64, z = (q1 &&& (17592186044415 : Int64)) := ⟨_, rfl⟩
  replace r : A0 l Z n0 D h 0 0 11 #[.val (.int p0), .val (.long q1), .second, .val (.int p2), .val (.int p3), .val (.int v5_1), .unset, .unset, .unset, .unset, .unset, .unset, .unset, .unset, .unset, .unset, .unset, .unset] [(.long v6_2)] := by rw [e_v6_2]; exact r
  replace r : A0 l Z n0 D h 0 0 13 #[.val (.int p0), .val (.long q1), .second, .val (.int p2), .val (.int p3), .val (.int v5_1), .val (.long v6_2), .second, .unset, .unset, .unset, .unset, .unset, .unset, .unset, .unset, .unset, .unset] [] := Own.lstore r at_11 rfl
  replace r : A0 l Z n0 D h 0 0 14 #[.val (.int p0), .val (.long q1), .second, .val (.int p2), .val (.int p3), .val (.int v5_1), .val (.long v6_2), .second, .unset, .unset, .unset, .unset, .unset, .unset, .unset, .unset, .unset, .unset] [(.int p2)] := Own.iloadN r at_13 rfl
  replace r : A0 l Z n0 D h 0 0 17 #[.val (.int p0), .val (.long q1), .second, .val (.int p2), .val (.int p3), .val (.int v5_1), .val (.long v6_2), .second, .unset, .unset, .unset, .unset, .unset, .unset, .unset, .unset, .unset, .unset] [(.int (255 : Int32)), (.int p2)] := Own.sipush r at_14 rfl
  replace r : A0 l Z n0 D h 0 0 18 #[.val (.int p0), .val (.long q1), .second, .val (.int p2), .val (.int p3), .val (.int v5_1), .val (.long v6_2), .second, .unset, .unset, .unset, .unset, .unset, .unset, .unset, .unset, .unset, .unset] [(.int (p2 &&& (255 : Int32)))] := Own.iand r at_17
  replace r : A0 l Z n0 D h 0 0 19 #[.val (.int p0), .val (.long q1), .second, .val (.int p2), .val (.int p3), .val (.int v5_1), .val (.long v6_2), .second, .unset, .unset, .unset, .unset, .unset, .unset, .unset, .unset, .unset, .unset] [(.int (Own.i2cW (p2 &&& (255 : Int32))))] := Own.i2c r at_18
  obtain ⟨v8_3, e_v8_3⟩ : ∃ z : Int32, z = (Own.i2cW (p2 &&& (255 : Int32))) := ⟨_, rfl⟩
  replace r : A0 l Z n0 D h 0 0 19 #[.val (.int p0), .val (.long q1), .second, .val (.int p2), .val (.int p3), .val (.int v5_1), .val (.long v6_2), .second, .unset, .unset, .unset, .unset, .unset, .unset, .unset, .unset, .unset, .unset] [(.int v8_3)] := by rw [e_v8_3]; exact r
  replace r : A0 l Z n0 D h 0 0 21 #[.val (.int p0), .val (.long q1), .second, .val (.int p2), .val (.int p3), .val (.int v5_1), .val (.long v6_2), .second, .val (.int v8_3), .unset, .unset, .unset, .unset, .unset, .unset, .unset, .unset, .unset] [] := Own.istore r at_19 rfl
  replace r : A0 l Z n0 D h 0 0 23 #[.val (.int p0), .val (.long q1), .second, .val (.int p2), .val (.int p3), .val (.int v5_1), .val (.long v6_2), .second, .val (.int v8_3), .unset, .unset, .unset, .unset, .unset, .unset, .unset, .unset, .unset] [(.int p3)] := Own.iload r at_21 rfl
  replace r : A0 l Z n0 D h 0 0 26 #[.val (.int p0), .val (.long q1), .second, .val (.int p2), .val (.int p3), .val (.int v5_1), .val (.long v6_2), .second, .val (.int v8_3), .unset, .unset, .unset, .unset, .unset, .unset, .unset, .unset, .unset] [(.int (255 : Int32)), (.int p3)] := Own.sipush r at_23 rfl
  replace r : A0 l Z n0 D h 0 0 27 #[.val (.int p0), .val (.long q1), .second, .val (.int p2), .val (.int p3), .val (.int v5_1), .val (.long v6_2), .second, .val (.int v8_3), .unset, .unset, .unset, .unset, .unset, .unset, .unset, .unset, .unset] [(.int (p3 &&& (255 : Int32)))] := Own.iand r at_26
  replace r : A0 l Z n0 D h 0 0 28 #[.val (.int p0), .val (.long q1), .second, .val (.int p2), .val (.int p3), .val (.int v5_1), .val (.long v6_2), .second, .val (.int v8_3), .unset, .unset, .unset, .unset, .unset, .unset, .unset, .unset, .unset] [(.int (Own.i2cW (p3 &&& (255 : Int32))))] := Own.i2c r at_27
  obtain ⟨v9_4, e_v9_4⟩ : ∃ z : Int32, z = (Own.i2cW (p3 &&& (255 : Int32))) := ⟨_, rfl⟩
  replace r : A0 l Z n0 D h 0 0 28 #[.val (.int p0), .val (.long q1), .second, .val (.int p2), .val (.int p3), .val (.int v5_1), .val (.long v6_2), .second, .val (.int v8_3), .unset, .unset, .unset, .unset, .unset, .unset, .unset, .unset, .unset] [(.int v9_4)] := by rw [e_v9_4]; exact r
  replace r : A0 l Z n0 D h 0 0 30 #[.val (.int p0), .val (.long q1), .second, .val (.int p2), .val (.int p3), .val (.int v5_1), .val (.long v6_2), .second, .val (.int v8_3), .val (.int v9_4), .unset, .unset, .unset, .unset, .unset, .unset, .unset, .unset] [] := Own.istore r at_28 rfl
  obtain ⟨h5, ⟨E5, X_b5, D5⟩, r⟩ := Own.newObj r at_30 (hw _ (List.mem_of_getElem? (i := 2) rfl)) (hw _ (List.mem_of_getElem? (i := 3) rfl)) (hw _ (List.mem_of_getElem? (i := 4) rfl)) (by decide) (by decide)
  obtain ⟨b5, g5⟩ : ∃ z, z = h.size := ⟨_, rfl⟩
  rw [← g5] at X_b5 D5 r
  have ge_b5 : n0 ≤ b5 := Nat.le_trans Zs (Nat.le_of_eq g5.symm)
  replace O := O.ext E5
  replace Zs := Nat.le_trans Zs E5.1
  try replace RB := RB.grow E5.1
  replace r : A0 l Z n0 D h5 1 3 33 #[.val (.int p0), .val (.long q1), .second, .val (.int p2), .val (.int p3), .val (.int v5_1), .val (.long v6_2), .second, .val (.int v8_3), .val (.int v9_4), .unset, .unset, .unset, .unset, .unset, .unset, .unset, .unset] [(.ref b5)] := r
  have F_modCount_b5 : Fld Z h5 b5 "java/util/AbstractList" "modCount" "I" (.int (0 : Int32)) := D5 (Or.inl (hw _ (List.mem_of_getElem? (i := 24) rfl))) (ty := .int) (by decide)
  have F_elementData_b5 : Fld Z h5 b5 "java/util/ArrayList" "elementData" "[Ljava/lang/Object;" .null := D5 (Or.inl (hw _ (List.mem_of_getElem? (i := 27) rfl))) (ty := (.array (.object "java/lang/Object"))) (by decide)
  have F_size_b5 : Fld Z h5 b5 "java/util/ArrayList" "size" "I" (.int (0 : Int32)) := D5 (Or.inl (hw _ (List.mem_of_getElem? (i := 60) rfl))) (ty := .int) (by decide)
  replace r : A0 l Z n0 D h5 1 3 34 #[.val (.int p0), .val (.long q1), .second, .val (.int p2), .val (.int p3), .val (.int v5_1), .val (.long v6_2), .second, .val (.int v8_3), .val (.int v9_4), .unset, .unset, .unset, .unset, .unset, .unset, .unset, .unset] [(.ref b5), (.ref b5)] := Own.dup r at_33 rfl
  obtain ⟨rv6, h7, hQ8, r⟩ := Own.callI [] r at_34 (c1 l Z a0 hw n0 h5 Zs b5 _ _ _ F_modCount_b5 F_elementData_b5 F_size_b5 X_b5 ge_b5 O dz hD) (hw _ (List.mem_of_getElem? (i := 5) rfl)) (hw _ (List.mem_of_getElem? (i := 6) rfl)) (hw _ (List.mem_of_getElem? (i := 4) rfl)) (hw _ (List.mem_of_getElem? (i := 7) rfl)) rfl (lenOf pd_0_0 rfl) rfl rfl (W := 1) (Nat.le_of_eq rfl) rfl (by decide) (by decide) (by decide) (by decide) (by decide)
  obtain ⟨rfl, K9, X_b5, F_modCount_b5, F_elementData_b5, F_size_b5⟩ := hQ8
  replace O := O.keep K9 (allS ge_b5 all0)
  replace Zs := Nat.le_trans Zs K9.1
  replace RB := RB.grow K9.1
  replace r : A0 l Z n0 D h7 1 3 37 #[.val (.int p0), .val (.long q1), .second, .val (.int p2), .val (.int p3), .val (.int v5_1), .val (.long v6_2), .second, .val (.int v8_3), .val (.int v9_4), .unset, .unset, .unset, .unset, .unset, .unset, .unset, .unset] [(.ref b5)] := r
  replace r : A0 l Z n0 D h7 1 3 39 #[.val (.int p0), .val (.long q1), .second, .val (.int p2), .val (.int p3), .val (.int v5_1), .val (.long v6_2), .second, .val (.int v8_3), .val (.int v9_4), .val (.ref b5), .unset, .unset, .unset, .unset, .unset, .unset, .unset] [] := Own.astore r at_37 rfl rfl
  replace r : A0 l Z n0 D h7 1 3 41 #[.val (.int p0), .val (.long q1), .second, .val (.int p2), .val (.int p3), .val (.int v5_1), .val (.long v6_2), .second, .val (.int v8_3), .val (.int v9_4), .val (.ref b5), .unset, .unset, .unset, .unset, .unset, .unset, .unset] [(.ref b5)] := Own.aload r at_39 rfl rfl
  replace r : A0 l Z n0 D h7 1 3 43 #[.val (.int p0), .val (.long q1), .second, .val (.int p2), .val (.int p3), .val (.int v5_1), .val (.long v6_2), .second, .val (.int v8_3), .val (.int v9_4), .val (.ref b5), .unset, .unset, .unset, .unset, .unset, .unset, .unset] [(.int v8_3), (.ref b5)] := Own.iload r at_41 rfl
  obtain ⟨rv10, h11, hQ12, r⟩ := Own.callS [(.int v8_3)] r at_43 (c5 l Z a0 hw n0 h7 Zs v8_3 O cs hC hcs (own_c255 e_v8_3)) (hw _ (List.mem_of_getElem? (i := 28) rfl)) (hw _ (List.mem_of_getElem? (i := 29) rfl)) (hw _ (List.mem_of_getElem? (i := 30) rfl)) (hw _ (List.mem_of_getElem? (i := 31) rfl)) (lenOf pd_0_1 rfl) rfl rfl (W := 1) (Nat.le_of_eq rfl) rfl (by decide) (by decide) (by decide) (by decide) (by decide)
  obtain ⟨b13, rfl, sz1_b13, K14, X_b13⟩ := hQ12
  have ne_b5_b13 : b5 ≠ b13 := Nat.ne_of_lt (Nat.lt_of_lt_of_le F_modCount_b5.lt sz1_b13)
  replace O := O.keep K14 all0
  replace F_modCount_b5 := F_modCount_b5.keep K14 (by simp)
  replace F_elementData_b5 := F_elementData_b5.keep K14 (by simp)
  replace F_size_b5 := F_size_b5.keep K14 (by simp)
  replace X_b5 := X_b5.keep K14
  replace Zs := Nat.le_trans Zs K14.1
  replace RB := RB.grow K14.1
  replace r : A0 l Z n0 D h11 3 8 46 #[.val (.int p0), .val (.long q1), .second, .val (.int p2), .val (.int p3), .val (.int v5_1), .val (.long v6_2), .second, .val (.int v8_3), .val (.int v9_4), .val (.ref b5), .unset, .unset, .unset, .unset, .unset, .unset, .unset] [(.ref b13), (.ref b5)] := r
  have lt_b5 := X_b5.lt
  obtain ⟨rv15, h16, hQ17, r⟩ := Own.callV [(.ref b13)] r at_46 (c9 l Z a0 hw n0 h11 Zs b5 b13 (0 : Int32) O dz hD F_modCount_b5 F_elementData_b5 F_size_b5 X_b5 ge_b5 X_b13) X_b5 (hw _ (List.mem_of_getElem? (i := 52) rfl)) (hw _ (List.mem_of_getElem? (i := 53) rfl)) (Own.nfS (hw _ (List.mem_of_getElem? (i := 55) rfl))) (hw _ (List.mem_of_getElem? (i := 55) rfl)) (hw _ (List.mem_of_getElem? (i := 54) rfl)) (hw _ (List.mem_of_getElem? (i := 4) rfl)) (hw _ (List.mem_of_getElem? (i := 56) rfl)) (lenOf pd_0_2 rfl) rfl rfl (W := 0) (Nat.le_of_eq rfl) rfl (by decide) (by decide) (by decide) (by decide) (by decide)
  obtain ⟨rfl, ed, sz1_ed, K18, X_b5, F_modCount_b5, F_elementData_b5, F_size_b5, V_ed, Q_ed⟩ := hQ17
  have ge_ed : n0 ≤ ed := Nat.le_trans Zs sz1_ed
  have ne_b13_ed : b13 ≠ ed := Nat.ne_of_lt (Nat.lt_of_lt_of_le X_b13.lt sz1_ed)
  have ne_b5_ed : b5 ≠ ed := Nat.ne_of_lt (Nat.lt_of_lt_of_le lt_b5 sz1_ed)
  replace O := O.keep K18 (allS ge_b5 all0)
  replace X_b13 := X_b13.keep K18
  replace Zs := Nat.le_trans Zs K18.1
  replace RB := RB.grow K18.1
  replace r : A0 l Z n0 D h16 4 18 49 #[.val (.int p0), .val (.long q1), .second, .val (.int p2), .val (.int p3), .val (.int v5_1), .val (.long v6_2), .second, .val (.int v8_3), .val (.int v9_4), .val (.ref b5), .unset, .unset, .unset, .unset, .unset, .unset, .unset] [(.int (1 : Int32))] := r
  replace r : A0 l Z n0 D h16 4 18 50 #[.val (.int p0), .val (.long q1), .second, .val (.int p2), .val (.int p3), .val (.int v5_1), .val (.long v6_2), .second, .val (.int v8_3), .val (.int v9_4), .val (.ref b5), .unset, .unset, .unset, .unset, .unset, .unset, .unset] [] := Own.pop r at_49 rfl
  replace r : A0 l Z n0 D h16 4 18 52 #[.val (.int p0), .val (.long q1), .second, .val (.int p2), .val (.int p3), .val (.int v5_1), .val (.long v6_2), .second, .val (.int v8_3), .val (.int v9_4), .val (.ref b5), .unset, .unset, .unset, .unset, .unset, .unset, .unset] [(.ref b5)] := Own.aload r at_50 rfl rfl
  obtain ⟨h19, ⟨E19, X_b19, D19⟩, r⟩ := Own.newObj r at_52 (hw _ (List.mem_of_getElem? (i := 83) rfl)) (hw _ (List.mem_of_getElem? (i := 38) rfl)) (hw _ (List.mem_of_getElem? (i := 30) rfl)) (by decide) (by decide)
  obtain ⟨b19, g19⟩ : ∃ z, z = h16.size := ⟨_, rfl⟩
  rw [← g19] at X_b19 D19 r
  have ge_b19 : n0 ≤ b19 := Nat.le_trans Zs (Nat.le_of_eq g19.symm)
  have ne_b13_b19 : b13 ≠ b19 := Own.ne_lt X_b13.lt g19
  have ne_b5_b19 : b5 ≠ b19 := Own.ne_lt F_modCount_b5.lt g19
  have ne_ed_b19 : ed ≠ b19 := Own.ne_lt V_ed.lt g19
  replace O := O.ext E19
  replace X_b13 := X_b13.ext E19
  replace F_modCount_b5 := F_modCount_b5.ext E19
  replace F_elementData_b5 := F_elementData_b5.ext E19
  replace F_size_b5 := F_size_b5.ext E19
  replace X_b5 := X_b5.ext E19
  replace V_ed := V_ed.ext E19
  replace Q_ed := Q_ed.ext E19
  replace Zs := Nat.le_trans Zs E19.1
  try replace RB := RB.grow E19.1
  replace r : A0 l Z n0 D h19 5 22 55 #[.val (.int p0), .val (.long q1), .second, .val (.int p2), .val (.int p3), .val (.int v5_1), .val (.long v6_2), .second, .val (.int v8_3), .val (.int v9_4), .val (.ref b5), .unset, .unset, .unset, .unset, .unset, .unset, .unset] [(.ref b19), (.ref b5)] := r
  have F_value_b19 : Fld Z h19 b19 "java/lang/String" "value" "[B" .null := D19 (Or.inr (hw _ (List.mem_of_getElem? (i := 49) rfl))) (ty := (.array .byte)) (by decide)
  have F_coder_b19 : Fld Z h19 b19 "java/lang/String" "coder" "B" (.int (0 : Int32)) := D19 (Or.inr (hw _ (List.mem_of_getElem? (i := 51) rfl))) (ty := .byte) (by decide)
  replace r : A0 l Z n0 D h19 5 22 56 #[.val (.int p0), .val (.long q1), .second, .val (.int p2), .val (.int p3), .val (.int v5_1), .val (.long v6_2), .second, .val (.int v8_3), .val (.int v9_4), .val (.ref b5), .unset, .unset, .unset, .unset, .unset, .unset, .unset] [(.ref b19), (.ref b19), (.ref b5)] := Own.dup r at_55 rfl
  replace r : A0 l Z n0 D h19 5 22 57 #[.val (.int p0), .val (.long q1), .second, .val (.int p2), .val (.int p3), .val (.int v5_1), .val (.long v6_2), .second, .val (.int v8_3), .val (.int v9_4), .val (.ref b5), .unset, .unset, .unset, .unset, .unset, .unset, .unset] [(.int (2 : Int32)), (.ref b19), (.ref b19), (.ref b5)] := Own.iconst r at_56 rfl
  obtain ⟨h20, ⟨E20, V_b20⟩, r⟩ := Own.newArr r at_57 (hw _ (List.mem_of_getElem? (i := 84) rfl)) (by decide) (cap := 2) (by decide) (by decide) (by decide) (by decide)
  obtain ⟨b20, g20⟩ : ∃ z, z = h19.size := ⟨_, rfl⟩
  rw [← g20] at V_b20 r
  have ge_b20 : n0 ≤ b20 := Nat.le_trans Zs (Nat.le_of_eq g20.symm)
  have ne_b13_b20 : b13 ≠ b20 := Own.ne_lt X_b13.lt g20
  have ne_b19_b20 : b19 ≠ b20 := Own.ne_lt X_b19.lt g20
  have ne_b5_b20 : b5 ≠ b20 := Own.ne_lt F_modCount_b5.lt g20
  have ne_ed_b20 : ed ≠ b20 := Own.ne_lt V_ed.lt g20
  replace O := O.ext E20
  replace X_b13 := X_b13.ext E20
  replace F_modCount_b5 := F_modCount_b5.ext E20
  replace F_elementData_b5 := F_elementData_b5.ext E20
  replace F_size_b5 := F_size_b5.ext E20
  replace X_b5 := X_b5.ext E20
  replace V_ed := V_ed.ext E20
  replace Q_ed := Q_ed.ext E20
  replace X_b19 := X_b19.ext E20
  replace F_value_b19 := F_value_b19.ext E20
  replace F_coder_b19 := F_coder_b19.ext E20
  replace Zs := Nat.le_trans Zs E20.1
  try replace RB := RB.grow E20.1
  replace r : A0 l Z n0 D h20 6 24 59 #[.val (.int p0), .val (.long q1), .second, .val (.int p2), .val (.int p3), .val (.int v5_1), .val (.long v6_2), .second, .val (.int v8_3), .val (.int v9_4), .val (.ref b5), .unset, .unset, .unset, .unset, .unset, .unset, .unset] [(.ref b20), (.ref b19), (.ref b19), (.ref b5)] := r
  replace V_b20 : Own.VA Z h20 b20 .char [(.int (0 : Int32)), (.int (0 : Int32))] := V_b20
  replace r : A0 l Z n0 D h20 6 24 60 #[.val (.int p0), .val (.long q1), .second, .val (.int p2), .val (.int p3), .val (.int v5_1), .val (.long v6_2), .second, .val (.int v8_3), .val (.int v9_4), .val (.ref b5), .unset, .unset, .unset, .unset, .unset, .unset, .unset] [(.ref b20), (.ref b20), (.ref b19), (.ref b19), (.ref b5)] := Own.dup r at_59 rfl
  replace r : A0 l Z n0 D h20 6 24 61 #[.val (.int p0), .val (.long q1), .second, .val (.int p2), .val (.int p3), .val (.int v5_1), .val (.long v6_2), .second, .val (.int v8_3), .val (.int v9_4), .val (.ref b5), .unset, .unset, .unset, .unset, .unset, .unset, .unset] [(.int (0 : Int32)), (.ref b20), (.ref b20), (.ref b19), (.ref b19), (.ref b5)] := Own.iconst r at_60 rfl
  replace r : A0 l Z n0 D h20 6 24 63 #[.val (.int p0), .val (.long q1), .second, .val (.int p2), .val (.int p3), .val (.int v5_1), .val (.long v6_2), .second, .val (.int v8_3), .val (.int v9_4), .val (.ref b5), .unset, .unset, .unset, .unset, .unset, .unset, .unset] [(.int v8_3), (.int (0 : Int32)), (.ref b20), (.ref b20), (.ref b19), (.ref b19), (.ref b5)] := Own.iload r at_61 rfl
  obtain ⟨h22, ⟨W21, V_b20⟩, r⟩ := Own.castore r at_63 V_b20 (by decide) (Nat.le_of_ble_eq_true rfl) ge_b20
  replace r : A0 l Z n0 D h22 6 24 64 #[.val (.int p0), .val (.long q1), .second, .val (.int p2), .val (.int p3), .val (.int v5_1), .val (.long v6_2), .second, .val (.int v8_3), .val (.int v9_4), .val (.ref b5), .unset, .unset, .unset, .unset, .unset, .unset, .unset] [(.ref b20), (.ref b19), (.ref b19), (.ref b5)] := r
  replace O := O.wr W21 ge_b20
  replace X_b13 := X_b13.wr W21
  replace F_modCount_b5 := F_modCount_b5.other W21 (Or.inl ne_b5_b20)
  replace F_elementData_b5 := F_elementData_b5.other W21 (Or.inl ne_b5_b20)
  replace F_size_b5 := F_size_b5.other W21 (Or.inl ne_b5_b20)
  replace X_b5 := X_b5.wr W21
  replace V_ed := V_ed.other W21 ne_ed_b20
  replace Q_ed := Q_ed.wr W21
  replace X_b19 := X_b19.wr W21
  replace F_value_b19 := F_value_b19.other W21 (Or.inl ne_b19_b20)
  replace F_coder_b19 := F_coder_b19.other W21 (Or.inl ne_b19_b20)
  replace Zs := Nat.le_trans Zs (Nat.le_of_eq W21.size.symm)
  replace RB := RB.grow (Nat.le_of_eq W21.size.symm)
  replace V_b20 : Own.VA Z h22 b20 .char [(.int (nar .char v8_3)), (.int (0 : Int32))] := V_b20
  replace r : A0 l Z n0 D h22 6 24 65 #[.val (.int p0), .val (.long q1), .second, .val (.int p2), .val (.int p3), .val (.int v5_1), .val (.long v6_2), .second, .val (.int v8_3), .val (.int v9_4), .val (.ref b5), .unset, .unset, .unset, .unset, .unset, .unset, .unset] [(.ref b20), (.ref b20), (.ref b19), (.ref b19), (.ref b5)] := Own.dup r at_64 rfl
  replace r : A0 l Z n0 D h22 6 24 66 #[.val (.int p0), .val (.long q1), .second, .val (.int p2), .val (.int p3), .val (.int v5_1), .val (.long v6_2), .second, .val (.int v8_3), .val (.int v9_4), .val (.ref b5), .unset, .unset, .unset, .unset, .unset, .unset, .unset] [(.int (1 : Int32)), (.ref b20), (.ref b20), (.ref b19), (.ref b19), (.ref b5)] := Own.iconst r at_65 rfl
  replace r : A0 l Z n0 D h22 6 24 68 #[.val (.int p0), .val (.long q1), .second, .val (.int p2), .val (.int p3), .val (.int v5_1), .val (.long v6_2), .second, .val (.int v8_3), .val (.int v9_4), .val (.ref b5), .unset, .unset, .unset, .unset, .unset, .unset, .unset] [(.int v9_4), (.int (1 : Int32)), (.ref b20), (.ref b20), (.ref b19), (.ref b19), (.ref b5)] := Own.iload r at_66 rfl
  obtain ⟨h24, ⟨W23, V_b20⟩, r⟩ := Own.castore r at_68 V_b20 (by decide) (Nat.le_of_ble_eq_true rfl) ge_b20
  replace r : A0 l Z n0 D h24 6 24 69 #[.val (.int p0), .val (.long q1), .second, .val (.int p2), .val (.int p3), .val (.int v5_1), .val (.long v6_2), .second, .val (.int v8_3), .val (.int v9_4), .val (.ref b5), .unset, .unset, .unset, .unset, .unset, .unset, .unset] [(.ref b20), (.ref b19), (.ref b19), (.ref b5)] := r
  replace O := O.wr W23 ge_b20
  replace X_b13 := X_b13.wr W23
  replace F_modCount_b5 := F_modCount_b5.other W23 (Or.inl ne_b5_b20)
  replace F_elementData_b5 := F_elementData_b5.other W23 (Or.inl ne_b5_b20)
  replace F_size_b5 := F_size_b5.other W23 (Or.inl ne_b5_b20)
  replace X_b5 := X_b5.wr W23
  replace V_ed := V_ed.other W23 ne_ed_b20
  replace Q_ed := Q_ed.wr W23
  replace X_b19 := X_b19.wr W23
  replace F_value_b19 := F_value_b19.other W23 (Or.inl ne_b19_b20)
  replace F_coder_b19 := F_coder_b19.other W23 (Or.inl ne_b19_b20)
  replace Zs := Nat.le_trans Zs (Nat.le_of_eq W23.size.symm)
  replace RB := RB.grow (Nat.le_of_eq W23.size.symm)
  replace V_b20 : Own.VA Z h24 b20 .char [(.int (nar .char v8_3)), (.int (nar .char v9_4))] := V_b20
  obtain ⟨rv25, h26, hQ27, r⟩ := Own.callI [(.ref b20)] r at_69 (c14 l Z a0 hw n0 h24 Zs b19 b20 _ _ F_value_b19 F_coder_b19 X_b19 ge_b19 (Ne.symm ne_b19_b20) O cs hC hcs (nar .char v8_3) (nar .char v9_4) V_b20 (own_n255 e_v8_3) (own_n255 e_v9_4)) (hw _ (List.mem_of_getElem? (i := 85) rfl)) (hw _ (List.mem_of_getElem? (i := 86) rfl)) (hw _ (List.mem_of_getElem? (i := 30) rfl)) (hw _ (List.mem_of_getElem? (i := 87) rfl)) rfl (lenOf pd_0_3 rfl) rfl rfl (W := 2) (Nat.le_of_eq rfl) rfl (by decide) (by decide) (by decide) (by decide) (by decide)
  obtain ⟨rfl, K28, X_b19⟩ := hQ27
  replace O := O.keep K28 (allS ge_b19 all0)
  replace X_b13 := X_b13.keep K28
  replace F_modCount_b5 := F_modCount_b5.keep K28 (by simp [ne_b5_b19])
  replace F_elementData_b5 := F_elementData_b5.keep K28 (by simp [ne_b5_b19])
  replace F_size_b5 := F_size_b5.keep K28 (by simp [ne_b5_b19])
  replace X_b5 := X_b5.keep K28
  replace V_ed := V_ed.keep K28 (by simp [ne_ed_b19])
  replace Q_ed := Q_ed.keep K28
  replace V_b20 := V_b20.keep K28 (by simp [(Ne.symm ne_b19_b20)])
  replace Zs := Nat.le_trans Zs K28.1
  replace RB := RB.grow K28.1
  replace r : A0 l Z n0 D h26 7 26 72 #[.val (.int p0), .val (.long q1), .second, .val (.int p2), .val (.int p3), .val (.int v5_1), .val (.long v6_2), .second, .val (.int v8_3), .val (.int v9_4), .val (.ref b5), .unset, .unset, .unset, .unset, .unset, .unset, .unset] [(.ref b19), (.ref b5)] := r
  obtain ⟨rv29, h30, hQ31, r⟩ := Own.callV [(.ref b19)] r at_72 (c9b l Z a0 hw n0 h26 Zs b5 b19 ed ((0 : Int32) + (1 : Int32)) b13 F_modCount_b5 F_elementData_b5 F_size_b5 X_b5 ge_b5 X_b19 V_ed Q_ed ge_ed (Ne.symm ne_b5_ed)) X_b5 (hw _ (List.mem_of_getElem? (i := 52) rfl)) (hw _ (List.mem_of_getElem? (i := 53) rfl)) (Own.nfS (hw _ (List.mem_of_getElem? (i := 55) rfl))) (hw _ (List.mem_of_getElem? (i := 55) rfl)) (hw _ (List.mem_of_getElem? (i := 54) rfl)) (hw _ (List.mem_of_getElem? (i := 4) rfl)) (hw _ (List.mem_of_getElem? (i := 56) rfl)) (lenOf pd_0_2 rfl) rfl rfl (W := 0) (Nat.le_of_eq rfl) rfl (by decide) (by decide) (by decide) (by decide) (by decide)
  obtain ⟨rfl, K32, X_b5, F_modCount_b5, F_elementData_b5, F_size_b5, V_ed, Q_ed⟩ := hQ31
  replace O := O.keep K32 (allS ge_b5 (allS ge_ed all0))
  replace X_b13 := X_b13.keep K32
  replace V_b20 := V_b20.keep K32 (by simp [(Ne.symm ne_b5_b20), (Ne.symm ne_ed_b20)])
  replace X_b19 := X_b19.keep K32
  replace Zs := Nat.le_trans Zs K32.1
  replace RB := RB.grow K32.1
  replace r : A0 l Z n0 D h30 7 26 75 #[.val (.int p0), .val (.long q1), .second, .val (.int p2), .val (.int p3), .val (.int v5_1), .val (.long v6_2), .second, .val (.int v8_3), .val (.int v9_4), .val (.ref b5), .unset, .unset, .unset, .unset, .unset, .unset, .unset] [(.int (1 : Int32))] := r
  replace r : A0 l Z n0 D h30 7 26 76 #[.val (.int p0), .val (.long q1), .second, .val (.int p2), .val (.int p3), .val (.int v5_1), .val (.long v6_2), .second, .val (.int v8_3), .val (.int v9_4), .val (.ref b5), .unset, .unset, .unset, .unset, .unset, .unset, .unset] [] := Own.pop r at_75 rfl
  obtain ⟨h33, ⟨E33, X_b33, D33⟩, r⟩ := Own.newObj r at_76 (hw _ (List.mem_of_getElem? (i := 101) rfl)) (hw _ (List.mem_of_getElem? (i := 102) rfl)) (hw _ (List.mem_of_getElem? (i := 103) rfl)) (by decide) (by decide)
  obtain ⟨b33, g33⟩ : ∃ z, z = h30.size := ⟨_, rfl⟩
  rw [← g33] at X_b33 D33 r
  have ge_b33 : n0 ≤ b33 := Nat.le_trans Zs (Nat.le_of_eq g33.symm)
  have ne_b13_b33 : b13 ≠ b33 := Own.ne_lt X_b13.lt g33
  have ne_b19_b33 : b19 ≠ b33 := Own.ne_lt X_b19.lt g33
  have ne_b20_b33 : b20 ≠ b33 := Own.ne_lt V_b20.lt g33
  have ne_b5_b33 : b5 ≠ b33 := Own.ne_lt F_modCount_b5.lt g33
  have ne_ed_b33 : ed ≠ b33 := Own.ne_lt V_ed.lt g33
  replace O := O.ext E33
  replace X_b13 := X_b13.ext E33
  replace V_b20 := V_b20.ext E33
  replace X_b19 := X_b19.ext E33
  replace F_modCount_b5 := F_modCount_b5.ext E33
  replace F_elementData_b5 := F_elementData_b5.ext E33
  replace F_size_b5 := F_size_b5.ext E33
  replace X_b5 := X_b5.ext E33
  replace V_ed := V_ed.ext E33
  replace Q_ed := Q_ed.ext E33
  replace Zs := Nat.le_trans Zs E33.1
  try replace RB := RB.grow E33.1
  replace r : A0 l Z n0 D h33 8 27 79 #[.val (.int p0), .val (.long q1), .second, .val (.int p2), .val (.int p3), .val (.int v5_1), .val (.long v6_2), .second, .val (.int v8_3), .val (.int v9_4), .val (.ref b5), .unset, .unset, .unset, .unset, .unset, .unset, .unset] [(.ref b33)] := r
  have F_files_b33 : Fld Z h33 b33 "com/example/debit/debit/metering/PackedLines" "files" "Ljava/util/List;" .null := D33 (Or.inr (hw _ (List.mem_of_getElem? (i := 109) rfl))) (ty := (.object "java/util/List")) (by decide)
  replace r : A0 l Z n0 D h33 8 27 80 #[.val (.int p0), .val (.long q1), .second, .val (.int p2), .val (.int p3), .val (.int v5_1), .val (.long v6_2), .second, .val (.int v8_3), .val (.int v9_4), .val (.ref b5), .unset, .unset, .unset, .unset, .unset, .unset, .unset] [(.ref b33), (.ref b33)] := Own.dup r at_79 rfl
  replace r : A0 l Z n0 D h33 8 27 82 #[.val (.int p0), .val (.long q1), .second, .val (.int p2), .val (.int p3), .val (.int v5_1), .val (.long v6_2), .second, .val (.int v8_3), .val (.int v9_4), .val (.ref b5), .unset, .unset, .unset, .unset, .unset, .unset, .unset] [(.ref b5), (.ref b33), (.ref b33)] := Own.aload r at_80 rfl rfl
  obtain ⟨rv34, h35, hQ36, r⟩ := Own.callI [(.ref b5)] r at_82 (c19 l Z a0 hw n0 h33 Zs b33 b5 _ F_files_b33 X_b33 ge_b33) (hw _ (List.mem_of_getElem? (i := 104) rfl)) (hw _ (List.mem_of_getElem? (i := 105) rfl)) (hw _ (List.mem_of_getElem? (i := 103) rfl)) (hw _ (List.mem_of_getElem? (i := 106) rfl)) rfl (lenOf pd_0_4 rfl) rfl rfl (W := 1) (Nat.le_of_eq rfl) rfl (by decide) (by decide) (by decide) (by decide) (by decide)
  obtain ⟨rfl, K37, X_b33, F_files_b33⟩ := hQ36
  replace O := O.keep K37 (allS ge_b33 all0)
  replace X_b13 := X_b13.keep K37
  replace V_b20 := V_b20.keep K37 (by simp [ne_b20_b33])
  replace X_b19 := X_b19.keep K37
  replace F_modCount_b5 := F_modCount_b5.keep K37 (by simp [ne_b5_b33])
  replace F_elementData_b5 := F_elementData_b5.keep K37 (by simp [ne_b5_b33])
  replace F_size_b5 := F_size_b5.keep K37 (by simp [ne_b5_b33])
  replace X_b5 := X_b5.keep K37
  replace V_ed := V_ed.keep K37 (by simp [ne_ed_b33])
  replace Q_ed := Q_ed.keep K37
  replace Zs := Nat.le_trans Zs K37.1
  replace RB := RB.grow K37.1
  replace r : A0 l Z n0 D h35 8 27 85 #[.val (.int p0), .val (.long q1), .second, .val (.int p2), .val (.int p3), .val (.int v5_1), .val (.long v6_2), .second, .val (.int v8_3), .val (.int v9_4), .val (.ref b5), .unset, .unset, .unset, .unset, .unset, .unset, .unset] [(.ref b33)] := r
  replace r : A0 l Z n0 D h35 8 27 87 #[.val (.int p0), .val (.long q1), .second, .val (.int p2), .val (.int p3), .val (.int v5_1), .val (.long v6_2), .second, .val (.int v8_3), .val (.int v9_4), .val (.ref b5), .val (.ref b33), .unset, .unset, .unset, .unset, .unset, .unset] [] := Own.astore r at_85 rfl rfl
  replace r : A0 l Z n0 D h35 8 27 89 #[.val (.int p0), .val (.long q1), .second, .val (.int p2), .val (.int p3), .val (.int v5_1), .val (.long v6_2), .second, .val (.int v8_3), .val (.int v9_4), .val (.ref b5), .val (.ref b33), .unset, .unset, .unset, .unset, .unset, .unset] [(.ref b33)] := Own.aload r at_87 rfl rfl
  replace r : A0 l Z n0 D h35 8 27 91 #[.val (.int p0), .val (.long q1), .second, .val (.int p2), .val (.int p3), .val (.int v5_1), .val (.long v6_2), .second, .val (.int v8_3), .val (.int v9_4), .val (.ref b5), .val (.ref b33), .unset, .unset, .unset, .unset, .unset, .unset] [(.int v5_1), (.ref b33)] := Own.iload r at_89 rfl
  replace r : A0 l Z n0 D h35 8 27 93 #[.val (.int p0), .val (.long q1), .second, .val (.int p2), .val (.int p3), .val (.int v5_1), .val (.long v6_2), .second, .val (.int v8_3), .val (.int v9_4), .val (.ref b5), .val (.ref b33), .unset, .unset, .unset, .unset, .unset, .unset] [(.long v6_2), (.int v5_1), (.ref b33)] := Own.lload r at_91 rfl
  obtain ⟨rv38, h39, hQ40, r⟩ := Own.callV [(.int v5_1), (.long v6_2)] r at_93 (c20 l Z a0 hw n0 h35 Zs b33 v5_1 v6_2 (own_j1 e_v6_2) (own_j2 e_v6_2) (own_j3 e_v5_1)) X_b33 (hw _ (List.mem_of_getElem? (i := 110) rfl)) (hw _ (List.mem_of_getElem? (i := 111) rfl)) (Own.nfS (hw _ (List.mem_of_getElem? (i := 113) rfl))) (hw _ (List.mem_of_getElem? (i := 113) rfl)) (hw _ (List.mem_of_getElem? (i := 112) rfl)) (hw _ (List.mem_of_getElem? (i := 103) rfl)) (hw _ (List.mem_of_getElem? (i := 114) rfl)) (lenOf pd_0_5 rfl) rfl rfl (W := 0) (Nat.le_of_eq rfl) rfl (by decide) (by decide) (by decide) (by decide) (by decide)
  obtain ⟨rfl, y41, rfl, e_y41⟩ := hQ40
  replace r : A0 l Z n0 D h35 8 27 96 #[.val (.int p0), .val (.long q1), .second, .val (.int p2), .val (.int p3), .val (.int v5_1), .val (.long v6_2), .second, .val (.int v8_3), .val (.int v9_4), .val (.ref b5), .val (.ref b33), .unset, .unset, .unset, .unset, .unset, .unset] [(.long y41)] := r
  replace r : A0 l Z n0 D h35 8 27 98 #[.val (.int p0), .val (.long q1), .second, .val (.int p2), .val (.int p3), .val (.int v5_1), .val (.long v6_2), .second, .val (.int v8_3), .val (.int v9_4), .val (.ref b5), .val (.ref b33), .val (.long y41), .second, .unset, .unset, .unset, .unset] [] := Own.lstore r at_96 rfl
  replace r : A0 l Z n0 D h35 8 27 100 #[.val (.int p0), .val (.long q1), .second, .val (.int p2), .val (.int p3), .val (.int v5_1), .val (.long v6_2), .second, .val (.int v8_3), .val (.int v9_4), .val (.ref b5), .val (.ref b33), .val (.long y41), .second, .unset, .unset, .unset, .unset] [(.long y41)] := Own.lload r at_98 rfl
  replace r : A0 l Z n0 D h35 8 27 102 #[.val (.int p0), .val (.long q1), .second, .val (.int p2), .val (.int p3), .val (.int v5_1), .val (.long v6_2), .second, .val (.int v8_3), .val (.int v9_4), .val (.ref b5), .val (.ref b33), .val (.long y41), .second, .unset, .unset, .unset, .unset] [(.int v5_1), (.long y41)] := Own.iload r at_100 rfl
  replace r : A0 l Z n0 D h35 8 27 103 #[.val (.int p0), .val (.long q1), .second, .val (.int p2), .val (.int p3), .val (.int v5_1), .val (.long v6_2), .second, .val (.int v8_3), .val (.int v9_4), .val (.ref b5), .val (.ref b33), .val (.long y41), .second, .unset, .unset, .unset, .unset] [(.long v5_1.toInt64), (.long y41)] := Own.i2l r at_102
  replace r : A0 l Z n0 D h35 8 27 106 #[.val (.int p0), .val (.long q1), .second, .val (.int p2), .val (.int p3), .val (.int v5_1), .val (.long v6_2), .second, .val (.int v8_3), .val (.int v9_4), .val (.ref b5), .val (.ref b33), .val (.long y41), .second, .unset, .unset, .unset, .unset] [(.long (17592186044416 : Int64)), (.long v5_1.toInt64), (.long y41)] := Own.ldcJ r at_103 (hw _ (List.mem_of_getElem? (i := 117) rfl))
  replace r : A0 l Z n0 D h35 8 27 107 #[.val (.int p0), .val (.long q1), .second, .val (.int p2), .val (.int p3), .val (.int v5_1), .val (.long v6_2), .second, .val (.int v8_3), .val (.int v9_4), .val (.ref b5), .val (.ref b33), .val (.long y41), .second, .unset, .unset, .unset, .unset] [(.long (v5_1.toInt64 * (17592186044416 : Int64))), (.long y41)] := Own.lmul r at_106
  replace r : A0 l Z n0 D h35 8 27 109 #[.val (.int p0), .val (.long q1), .second, .val (.int p2), .val (.int p3), .val (.int v5_1), .val (.long v6_2), .second, .val (.int v8_3), .val (.int v9_4), .val (.ref b5), .val (.ref b33), .val (.long y41), .second, .unset, .unset, .unset, .unset] [(.long v6_2), (.long (v5_1.toInt64 * (17592186044416 : Int64))), (.long y41)] := Own.lload r at_107 rfl
  replace r : A0 l Z n0 D h35 8 27 110 #[.val (.int p0), .val (.long q1), .second, .val (.int p2), .val (.int p3), .val (.int v5_1), .val (.long v6_2), .second, .val (.int v8_3), .val (.int v9_4), .val (.ref b5), .val (.ref b33), .val (.long y41), .second, .unset, .unset, .unset, .unset] [(.long ((v5_1.toInt64 * (17592186044416 : Int64)) + v6_2)), (.long y41)] := Own.ladd r at_109
  replace r : A0 l Z n0 D h35 8 27 111 #[.val (.int p0), .val (.long q1), .second, .val (.int p2), .val (.int p3), .val (.int v5_1), .val (.long v6_2), .second, .val (.int v8_3), .val (.int v9_4), .val (.ref b5), .val (.ref b33), .val (.long y41), .second, .unset, .unset, .unset, .unset] [(.int (XT.cmpL y41 ((v5_1.toInt64 * (17592186044416 : Int64)) + v6_2)))] := Own.lcmp r at_110
  replace r : A0 l Z n0 D h35 8 27 114 #[.val (.int p0), .val (.long q1), .second, .val (.int p2), .val (.int p3), .val (.int v5_1), .val (.long v6_2), .second, .val (.int v8_3), .val (.int v9_4), .val (.ref b5), .val (.ref b33), .val (.long y41), .second, .unset, .unset, .unset, .unset] [] := Own.ifNo r at_111 (XT.ll_ne_f (own_ref e_v5_1 e_v6_2 e_y41))
  replace r : A0 l Z n0 D h35 8 27 115 #[.val (.int p0), .val (.long q1), .second, .val (.int p2), .val (.int p3), .val (.int v5_1), .val (.long v6_2), .second, .val (.int v8_3), .val (.int v9_4), .val (.ref b5), .val (.ref b33), .val (.long y41), .second, .unset, .unset, .unset, .unset] [(.int (1 : Int32))] := Own.iconst r at_114 rfl
  replace r : A0 l Z n0 D h35 8 27 119 #[.val (.int p0), .val (.long q1), .second, .val (.int p2), .val (.int p3), .val (.int v5_1), .val (.long v6_2), .second, .val (.int v8_3), .val (.int v9_4), .val (.ref b5), .val (.ref b33), .val (.long y41), .second, .unset, .unset, .unset, .unset] [(.int (1 : Int32))] := Own.goto r at_115 (by decide) (by decide)
  replace r : A0 l Z n0 D h35 8 27 121 #[.val (.int p0), .val (.long q1), .second, .val (.int p2), .val (.int p3), .val (.int v5_1), .val (.long v6_2), .second, .val (.int v8_3), .val (.int v9_4), .val (.ref b5), .val (.ref b33), .val (.long y41), .second, .val (.int (1 : Int32)), .unset, .unset, .unset] [] := Own.istore r at_119 rfl
  replace r : A0 l Z n0 D h35 8 27 123 #[.val (.int p0), .val (.long q1), .second, .val (.int p2), .val (.int p3), .val (.int v5_1), .val (.long v6_2), .second, .val (.int v8_3), .val (.int v9_4), .val (.ref b5), .val (.ref b33), .val (.long y41), .second, .val (.int (1 : Int32)), .unset, .unset, .unset] [(.int v5_1)] := Own.iload r at_121 rfl
  replace r : A0 l Z n0 D h35 8 27 124 #[.val (.int p0), .val (.long q1), .second, .val (.int p2), .val (.int p3), .val (.int v5_1), .val (.long v6_2), .second, .val (.int v8_3), .val (.int v9_4), .val (.ref b5), .val (.ref b33), .val (.long y41), .second, .val (.int (1 : Int32)), .unset, .unset, .unset] [(.int (1 : Int32)), (.int v5_1)] := Own.iconst r at_123 rfl
  replace r : A0 l Z n0 D h35 8 27 125 #[.val (.int p0), .val (.long q1), .second, .val (.int p2), .val (.int p3), .val (.int v5_1), .val (.long v6_2), .second, .val (.int v8_3), .val (.int v9_4), .val (.ref b5), .val (.ref b33), .val (.long y41), .second, .val (.int (1 : Int32)), .unset, .unset, .unset] [(.int (v5_1 &&& (1 : Int32)))] := Own.iand r at_124
  obtain ⟨v15_42, e_v15_42⟩ : ∃ z : Int32, z = (v5_1 &&& (1 : Int32)) := ⟨_, rfl⟩
  replace r : A0 l Z n0 D h35 8 27 125 #[.val (.int p0), .val (.long q1), .second, .val (.int p2), .val (.int p3), .val (.int v5_1), .val (.long v6_2), .second, .val (.int v8_3), .val (.int v9_4), .val (.ref b5), .val (.ref b33), .val (.long y41), .second, .val (.int (1 : Int32)), .unset, .unset, .unset] [(.int v15_42)] := by rw [e_v15_42]; exact r
  replace r : A0 l Z n0 D h35 8 27 127 #[.val (.int p0), .val (.long q1), .second, .val (.int p2), .val (.int p3), .val (.int v5_1), .val (.long v6_2), .second, .val (.int v8_3), .val (.int v9_4), .val (.ref b5), .val (.ref b33), .val (.long y41), .second, .val (.int (1 : Int32)), .val (.int v15_42), .unset, .unset] [] := Own.istore r at_125 rfl
  have hi := own_g0 e_v15_42
  have hi2 := own_g2 e_v15_42
  obtain ⟨xs, hx, X_xs⟩ : ∃ x, ([(.ref b13), (.ref b19), .null, .null, .null, .null, .null, .null, .null, .null] : List Value)[v15_42.toNatClampNeg]? = some (.ref x) ∧ Exa Z h35 x "java/lang/String" := by
    rcases own_g e_v15_42 with e | e
    · rw [e]; exact ⟨b13, rfl, X_b13⟩
    · rw [e]; exact ⟨b19, rfl, X_b19⟩
  replace r : A0 l Z n0 D h35 8 27 129 #[.val (.int p0), .val (.long q1), .second, .val (.int p2), .val (.int p3), .val (.int v5_1), .val (.long v6_2), .second, .val (.int v8_3), .val (.int v9_4), .val (.ref b5), .val (.ref b33), .val (.long y41), .second, .val (.int (1 : Int32)), .val (.int v15_42), .unset, .unset] [(.ref b33)] := Own.aload r at_127 rfl rfl
  replace r : A0 l Z n0 D h35 8 27 131 #[.val (.int p0), .val (.long q1), .second, .val (.int p2), .val (.int p3), .val (.int v5_1), .val (.long v6_2), .second, .val (.int v8_3), .val (.int v9_4), .val (.ref b5), .val (.ref b33), .val (.long y41), .second, .val (.int (1 : Int32)), .val (.int v15_42), .unset, .unset] [(.ref b33), (.ref b33)] := Own.aload r at_129 rfl rfl
  replace r : A0 l Z n0 D h35 8 27 133 #[.val (.int p0), .val (.long q1), .second, .val (.int p2), .val (.int p3), .val (.int v5_1), .val (.long v6_2), .second, .val (.int v8_3), .val (.int v9_4), .val (.ref b5), .val (.ref b33), .val (.long y41), .second, .val (.int (1 : Int32)), .val (.int v15_42), .unset, .unset] [(.int v15_42), (.ref b33), (.ref b33)] := Own.iload r at_131 rfl
  replace r : A0 l Z n0 D h35 8 27 135 #[.val (.int p0), .val (.long q1), .second, .val (.int p2), .val (.int p3), .val (.int v5_1), .val (.long v6_2), .second, .val (.int v8_3), .val (.int v9_4), .val (.ref b5), .val (.ref b33), .val (.long y41), .second, .val (.int (1 : Int32)), .val (.int v15_42), .unset, .unset] [(.long v6_2), (.int v15_42), (.ref b33), (.ref b33)] := Own.lload r at_133 rfl
  obtain ⟨rv43, h44, hQ45, r⟩ := Own.callV [(.int v15_42), (.long v6_2)] r at_135 (c20 l Z a0 hw n0 h35 Zs b33 v15_42 v6_2 (own_j1 e_v6_2) (own_j2 e_v6_2) (own_j3b e_v15_42)) X_b33 (hw _ (List.mem_of_getElem? (i := 110) rfl)) (hw _ (List.mem_of_getElem? (i := 111) rfl)) (Own.nfS (hw _ (List.mem_of_getElem? (i := 113) rfl))) (hw _ (List.mem_of_getElem? (i := 113) rfl)) (hw _ (List.mem_of_getElem? (i := 112) rfl)) (hw _ (List.mem_of_getElem? (i := 103) rfl)) (hw _ (List.mem_of_getElem? (i := 114) rfl)) (lenOf pd_0_5 rfl) rfl rfl (W := 1) (Nat.le_of_eq rfl) rfl (by decide) (by decide) (by decide) (by decide) (by decide)
  obtain ⟨rfl, y46, rfl, e_y46⟩ := hQ45
  replace r : A0 l Z n0 D h35 8 27 138 #[.val (.int p0), .val (.long q1), .second, .val (.int p2), .val (.int p3), .val (.int v5_1), .val (.long v6_2), .second, .val (.int v8_3), .val (.int v9_4), .val (.ref b5), .val (.ref b33), .val (.long y41), .second, .val (.int (1 : Int32)), .val (.int v15_42), .unset, .unset] [(.long y46), (.ref b33)] := r
  obtain ⟨D50, rv47, h48, hQ49, RB, r⟩ := Own.callVV [(.long y46)] r RB at_138 (c21 l Z a0 hw n0 h35 Zs b33 y46 b5 ed xs [(.ref b13), (.ref b19), .null, .null, .null, .null, .null, .null, .null, .null] v15_42 F_files_b33 X_b5 F_elementData_b5 F_size_b5 V_ed X_xs (own_idx e_v15_42 e_v6_2 e_y46) hi hi2 hx) X_b33 (hw _ (List.mem_of_getElem? (i := 118) rfl)) (hw _ (List.mem_of_getElem? (i := 119) rfl)) (Own.nfS (hw _ (List.mem_of_getElem? (i := 121) rfl))) (hw _ (List.mem_of_getElem? (i := 121) rfl)) (hw _ (List.mem_of_getElem? (i := 120) rfl)) (hw _ (List.mem_of_getElem? (i := 103) rfl)) (hw _ (List.mem_of_getElem? (i := 122) rfl)) (lenOf pd_0_6 rfl) rfl rfl (W := 0) (Nat.le_of_eq rfl) rfl (by decide) (by decide) (by decide) (by decide) (by decide)
  obtain ⟨sl, rfl, sz1_sl, K51, X_sl, F_file_sl, F_number_sl⟩ := hQ49
  replace O := O.keep K51 all0
  replace X_b13 := X_b13.keep K51
  replace V_b20 := V_b20.keep K51 (by simp)
  replace X_b19 := X_b19.keep K51
  replace F_modCount_b5 := F_modCount_b5.keep K51 (by simp)
  replace F_elementData_b5 := F_elementData_b5.keep K51 (by simp)
  replace F_size_b5 := F_size_b5.keep K51 (by simp)
  replace X_b5 := X_b5.keep K51
  replace V_ed := V_ed.keep K51 (by simp)
  replace Q_ed := Q_ed.keep K51
  replace X_b33 := X_b33.keep K51
  replace F_files_b33 := F_files_b33.keep K51 (by simp)
  replace X_xs := X_xs.keep K51
  replace Zs := Nat.le_trans Zs K51.1
  replace r : A0 l Z n0 D50 h48 11 49 141 #[.val (.int p0), .val (.long q1), .second, .val (.int p2), .val (.int p3), .val (.int v5_1), .val (.long v6_2), .second, .val (.int v8_3), .val (.int v9_4), .val (.ref b5), .val (.ref b33), .val (.long y41), .second, .val (.int (1 : Int32)), .val (.int v15_42), .unset, .unset] [(.ref sl)] := r
  replace r : A0 l Z n0 D50 h48 11 49 143 #[.val (.int p0), .val (.long q1), .second, .val (.int p2), .val (.int p3), .val (.int v5_1), .val (.long v6_2), .second, .val (.int v8_3), .val (.int v9_4), .val (.ref b5), .val (.ref b33), .val (.long y41), .second, .val (.int (1 : Int32)), .val (.int v15_42), .val (.ref sl), .unset] [] := Own.astore r at_141 rfl rfl
  replace r : A0 l Z n0 D50 h48 11 49 145 #[.val (.int p0), .val (.long q1), .second, .val (.int p2), .val (.int p3), .val (.int v5_1), .val (.long v6_2), .second, .val (.int v8_3), .val (.int v9_4), .val (.ref b5), .val (.ref b33), .val (.long y41), .second, .val (.int (1 : Int32)), .val (.int v15_42), .val (.ref sl), .unset] [(.ref sl)] := Own.aload r at_143 rfl rfl
  obtain ⟨rv52, h53, hQ54, r⟩ := Own.callV [] r at_145 (c28 l Z a0 hw n0 h48 Zs sl xs F_file_sl) X_sl (hw _ (List.mem_of_getElem? (i := 164) rfl)) (hw _ (List.mem_of_getElem? (i := 165) rfl)) (Own.nfS (hw _ (List.mem_of_getElem? (i := 167) rfl))) (hw _ (List.mem_of_getElem? (i := 167) rfl)) (hw _ (List.mem_of_getElem? (i := 166) rfl)) (hw _ (List.mem_of_getElem? (i := 125) rfl)) (hw _ (List.mem_of_getElem? (i := 168) rfl)) (lenOf pd_0_7 rfl) rfl rfl (W := 0) (Nat.le_of_eq rfl) rfl (by decide) (by decide) (by decide) (by decide) (by decide)
  obtain ⟨rfl, rfl⟩ := hQ54
  replace r : A0 l Z n0 D50 h48 11 49 148 #[.val (.int p0), .val (.long q1), .second, .val (.int p2), .val (.int p3), .val (.int v5_1), .val (.long v6_2), .second, .val (.int v8_3), .val (.int v9_4), .val (.ref b5), .val (.ref b33), .val (.long y41), .second, .val (.int (1 : Int32)), .val (.int v15_42), .val (.ref sl), .unset] [(.ref xs)] := r
  replace r : A0 l Z n0 D50 h48 11 49 150 #[.val (.int p0), .val (.long q1), .second, .val (.int p2), .val (.int p3), .val (.int v5_1), .val (.long v6_2), .second, .val (.int v8_3), .val (.int v9_4), .val (.ref b5), .val (.ref b33), .val (.long y41), .second, .val (.int (1 : Int32)), .val (.int v15_42), .val (.ref sl), .unset] [(.ref b5), (.ref xs)] := Own.aload r at_148 rfl rfl
  replace r : A0 l Z n0 D50 h48 11 49 152 #[.val (.int p0), .val (.long q1), .second, .val (.int p2), .val (.int p3), .val (.int v5_1), .val (.long v6_2), .second, .val (.int v8_3), .val (.int v9_4), .val (.ref b5), .val (.ref b33), .val (.long y41), .second, .val (.int (1 : Int32)), .val (.int v15_42), .val (.ref sl), .unset] [(.int v15_42), (.ref b5), (.ref xs)] := Own.iload r at_150 rfl
  obtain ⟨rv55, h56, hQ57, r⟩ := Own.callV [(.int v15_42)] r at_152 (c22 l Z a0 hw n0 h48 Zs b5 v15_42 ed [(.ref b13), (.ref b19), .null, .null, .null, .null, .null, .null, .null, .null] xs F_elementData_b5 V_ed hi hx F_size_b5 X_b5 hi2) X_b5 (hw _ (List.mem_of_getElem? (i := 169) rfl)) (hw _ (List.mem_of_getElem? (i := 170) rfl)) (Own.nfS (hw _ (List.mem_of_getElem? (i := 171) rfl))) (hw _ (List.mem_of_getElem? (i := 171) rfl)) (hw _ (List.mem_of_getElem? (i := 130) rfl)) (hw _ (List.mem_of_getElem? (i := 4) rfl)) (hw _ (List.mem_of_getElem? (i := 134) rfl)) (lenOf pd_0_8 rfl) rfl rfl (W := 1) (Nat.le_of_eq rfl) rfl (by decide) (by decide) (by decide) (by decide) (by decide)
  obtain ⟨rfl, rfl⟩ := hQ57
  replace r : A0 l Z n0 D50 h48 11 49 155 #[.val (.int p0), .val (.long q1), .second, .val (.int p2), .val (.int p3), .val (.int v5_1), .val (.long v6_2), .second, .val (.int v8_3), .val (.int v9_4), .val (.ref b5), .val (.ref b33), .val (.long y41), .second, .val (.int (1 : Int32)), .val (.int v15_42), .val (.ref sl), .unset] [(.ref xs), (.ref xs)] := r
  obtain ⟨rv58, h59, hQ60, r⟩ := Own.callV [(.ref xs)] r at_155 (c29 l Z a0 hw n0 h48 Zs xs xs rfl) X_xs (hw _ (List.mem_of_getElem? (i := 172) rfl)) (hw _ (List.mem_of_getElem? (i := 173) rfl)) (Own.nfS (hw _ (List.mem_of_getElem? (i := 175) rfl))) (hw _ (List.mem_of_getElem? (i := 175) rfl)) (hw _ (List.mem_of_getElem? (i := 174) rfl)) (hw _ (List.mem_of_getElem? (i := 30) rfl)) (hw _ (List.mem_of_getElem? (i := 176) rfl)) (lenOf pd_0_2 rfl) rfl rfl (W := 0) (Nat.le_of_eq rfl) rfl (by decide) (by decide) (by decide) (by decide) (by decide)
  obtain ⟨rfl, rfl⟩ := hQ60
  replace r : A0 l Z n0 D50 h48 11 49 158 #[.val (.int p0), .val (.long q1), .second, .val (.int p2), .val (.int p3), .val (.int v5_1), .val (.long v6_2), .second, .val (.int v8_3), .val (.int v9_4), .val (.ref b5), .val (.ref b33), .val (.long y41), .second, .val (.int (1 : Int32)), .val (.int v15_42), .val (.ref sl), .unset] [(.int (1 : Int32))] := r
  replace r : A0 l Z n0 D50 h48 11 49 161 #[.val (.int p0), .val (.long q1), .second, .val (.int p2), .val (.int p3), .val (.int v5_1), .val (.long v6_2), .second, .val (.int v8_3), .val (.int v9_4), .val (.ref b5), .val (.ref b33), .val (.long y41), .second, .val (.int (1 : Int32)), .val (.int v15_42), .val (.ref sl), .unset] [] := Own.ifNo r at_158 ((if0 _ _).trans (feq (by decide : ¬ ((1 : Int32) = (0 : Int32)))).1)
  replace r : A0 l Z n0 D50 h48 11 49 163 #[.val (.int p0), .val (.long q1), .second, .val (.int p2), .val (.int p3), .val (.int v5_1), .val (.long v6_2), .second, .val (.int v8_3), .val (.int v9_4), .val (.ref b5), .val (.ref b33), .val (.long y41), .second, .val (.int (1 : Int32)), .val (.int v15_42), .val (.ref sl), .unset] [(.ref sl)] := Own.aload r at_161 rfl rfl
  obtain ⟨rv61, h62, hQ63, r⟩ := Own.callV [] r at_163 (c30 l Z a0 hw n0 h48 Zs sl (y46 &&& (17592186044415 : Int64)) F_number_sl) X_sl (hw _ (List.mem_of_getElem? (i := 177) rfl)) (hw _ (List.mem_of_getElem? (i := 178) rfl)) (Own.nfS (hw _ (List.mem_of_getElem? (i := 180) rfl))) (hw _ (List.mem_of_getElem? (i := 180) rfl)) (hw _ (List.mem_of_getElem? (i := 179) rfl)) (hw _ (List.mem_of_getElem? (i := 125) rfl)) (hw _ (List.mem_of_getElem? (i := 181) rfl)) (lenOf pd_0_9 rfl) rfl rfl (W := 0) (Nat.le_of_eq rfl) rfl (by decide) (by decide) (by decide) (by decide) (by decide)
  obtain ⟨rfl, y64, rfl, e_y64⟩ := hQ63
  replace e_y64 : (y46 &&& (17592186044415 : Int64)) = y64 := e_y64.symm
  subst e_y64
  replace r : A0 l Z n0 D50 h48 11 49 166 #[.val (.int p0), .val (.long q1), .second, .val (.int p2), .val (.int p3), .val (.int v5_1), .val (.long v6_2), .second, .val (.int v8_3), .val (.int v9_4), .val (.ref b5), .val (.ref b33), .val (.long y41), .second, .val (.int (1 : Int32)), .val (.int v15_42), .val (.ref sl), .unset] [(.long (y46 &&& (17592186044415 : Int64)))] := r
  replace r : A0 l Z n0 D50 h48 11 49 168 #[.val (.int p0), .val (.long q1), .second, .val (.int p2), .val (.int p3), .val (.int v5_1), .val (.long v6_2), .second, .val (.int v8_3), .val (.int v9_4), .val (.ref b5), .val (.ref b33), .val (.long y41), .second, .val (.int (1 : Int32)), .val (.int v15_42), .val (.ref sl), .unset] [(.long v6_2), (.long (y46 &&& (17592186044415 : Int64)))] := Own.lload r at_166 rfl
  replace r : A0 l Z n0 D50 h48 11 49 169 #[.val (.int p0), .val (.long q1), .second, .val (.int p2), .val (.int p3), .val (.int v5_1), .val (.long v6_2), .second, .val (.int v8_3), .val (.int v9_4), .val (.ref b5), .val (.ref b33), .val (.long y41), .second, .val (.int (1 : Int32)), .val (.int v15_42), .val (.ref sl), .unset] [(.int (XT.cmpL (y46 &&& (17592186044415 : Int64)) v6_2))] := Own.lcmp r at_168
  replace r : A0 l Z n0 D50 h48 11 49 172 #[.val (.int p0), .val (.long q1), .second, .val (.int p2), .val (.int p3), .val (.int v5_1), .val (.long v6_2), .second, .val (.int v8_3), .val (.int v9_4), .val (.ref b5), .val (.ref b33), .val (.long y41), .second, .val (.int (1 : Int32)), .val (.int v15_42), .val (.ref sl), .unset] [] := Own.ifNo r at_169 (XT.ll_ne_f (own_num e_v15_42 e_v6_2 e_y46))
  replace r : A0 l Z n0 D50 h48 11 49 173 #[.val (.int p0), .val (.long q1), .second, .val (.int p2), .val (.int p3), .val (.int v5_1), .val (.long v6_2), .second, .val (.int v8_3), .val (.int v9_4), .val (.ref b5), .val (.ref b33), .val (.long y41), .second, .val (.int (1 : Int32)), .val (.int v15_42), .val (.ref sl), .unset] [(.int (1 : Int32))] := Own.iconst r at_172 rfl
  replace r : A0 l Z n0 D50 h48 11 49 177 #[.val (.int p0), .val (.long q1), .second, .val (.int p2), .val (.int p3), .val (.int v5_1), .val (.long v6_2), .second, .val (.int v8_3), .val (.int v9_4), .val (.ref b5), .val (.ref b33), .val (.long y41), .second, .val (.int (1 : Int32)), .val (.int v15_42), .val (.ref sl), .unset] [(.int (1 : Int32))] := Own.goto r at_173 (by decide) (by decide)
  replace r : A0 l Z n0 D50 h48 11 49 179 #[.val (.int p0), .val (.long q1), .second, .val (.int p2), .val (.int p3), .val (.int v5_1), .val (.long v6_2), .second, .val (.int v8_3), .val (.int v9_4), .val (.ref b5), .val (.ref b33), .val (.long y41), .second, .val (.int (1 : Int32)), .val (.int v15_42), .val (.ref sl), .val (.int (1 : Int32))] [] := Own.istore r at_177 rfl
  replace r : A0 l Z n0 D50 h48 11 49 181 #[.val (.int p0), .val (.long q1), .second, .val (.int p2), .val (.int p3), .val (.int v5_1), .val (.long v6_2), .second, .val (.int v8_3), .val (.int v9_4), .val (.ref b5), .val (.ref b33), .val (.long y41), .second, .val (.int (1 : Int32)), .val (.int v15_42), .val (.ref sl), .val (.int (1 : Int32))] [(.int (1 : Int32))] := Own.iload r at_179 rfl
  replace r : A0 l Z n0 D50 h48 11 49 184 #[.val (.int p0), .val (.long q1), .second, .val (.int p2), .val (.int p3), .val (.int v5_1), .val (.long v6_2), .second, .val (.int v8_3), .val (.int v9_4), .val (.ref b5), .val (.ref b33), .val (.long y41), .second, .val (.int (1 : Int32)), .val (.int v15_42), .val (.ref sl), .val (.int (1 : Int32))] [] := Own.ifNo r at_181 ((if0 _ _).trans (feq (by decide : ¬ ((1 : Int32) = (0 : Int32)))).1)
  replace r : A0 l Z n0 D50 h48 11 49 186 #[.val (.int p0), .val (.long q1), .second, .val (.int p2), .val (.int p3), .val (.int v5_1), .val (.long v6_2), .second, .val (.int v8_3), .val (.int v9_4), .val (.ref b5), .val (.ref b33), .val (.long y41), .second, .val (.int (1 : Int32)), .val (.int v15_42), .val (.ref sl), .val (.int (1 : Int32))] [(.int (1 : Int32))] := Own.iload r at_184 rfl
  replace r : A0 l Z n0 D50 h48 11 49 189 #[.val (.int p0), .val (.long q1), .second, .val (.int p2), .val (.int p3), .val (.int v5_1), .val (.long v6_2), .second, .val (.int v8_3), .val (.int v9_4), .val (.ref b5), .val (.ref b33), .val (.long y41), .second, .val (.int (1 : Int32)), .val (.int v15_42), .val (.ref sl), .val (.int (1 : Int32))] [] := Own.ifNo r at_186 ((if0 _ _).trans (feq (by decide : ¬ ((1 : Int32) = (0 : Int32)))).1)
  replace r : A0 l Z n0 D50 h48 11 49 190 #[.val (.int p0), .val (.long q1), .second, .val (.int p2), .val (.int p3), .val (.int v5_1), .val (.long v6_2), .second, .val (.int v8_3), .val (.int v9_4), .val (.ref b5), .val (.ref b33), .val (.long y41), .second, .val (.int (1 : Int32)), .val (.int v15_42), .val (.ref sl), .val (.int (1 : Int32))] [(.int (1 : Int32))] := Own.iconst r at_189 rfl
  replace r : A0 l Z n0 D50 h48 11 49 194 #[.val (.int p0), .val (.long q1), .second, .val (.int p2), .val (.int p3), .val (.int v5_1), .val (.long v6_2), .second, .val (.int v8_3), .val (.int v9_4), .val (.ref b5), .val (.ref b33), .val (.long y41), .second, .val (.int (1 : Int32)), .val (.int v15_42), .val (.ref sl), .val (.int (1 : Int32))] [(.int (1 : Int32))] := Own.goto r at_190 (by decide) (by decide)
  exact ⟨_, _, _, RB, (Own.Rch.retZ (y := x) (bytes := code) (mx := maxLocals) r at_194 (by decide)).more (by decide) (by decide), rfl⟩
set_option maxRecDepth 65536 in
set_option maxHeartbeats 40000000 in
theorem comes_1 {Post : Tables → Env → Array Value → State → Outcome → State → Prop} (hpost : ∀ tb e args s v u, (limb_1_1.after args s (.returned v) u = true ∧ limb_1_2.after args s (.returned v) u = true ∧ True) → Jvm.D.FramedW s (.returned v) u (Jvm.fieldLocs frame_1_writes args s ++ Jvm.arrayLocs frame_1_arrays args s ++ Jvm.staticLocs frame_1_statics s) 32 1152 → Post tb e args s (.returned v) u) :
    ArmFor flags0 classFile x code maxLocals ret World_1 tables_1 room_1 Calls_1 rest_1 Pre_1 Post := by
  intro l hfl _ _ p e ha hc hk s m args below hf hA hF happ hP
  obtain ⟨hcalls, hrest, hpre⟩ := hP
  obtain ⟨-, -, -, hnamed, -, -, -, hat⟩ := (Spec.applies_iff hf).mp happ
  obtain ⟨hg, hn⟩ := and_e (Cond.before_iff.mp (show (Jvm.Cond.and given_1 narrow_1).before args s = true from hpre))
  obtain ⟨g1, g2⟩ := and_e hg
  obtain ⟨g3, g4⟩ := and_e g2
  obtain ⟨g5, g6⟩ := and_e g4
  obtain ⟨g7, g8⟩ := and_e g6
  obtain ⟨w0, w1, w2, w3, rfl⟩ : ∃ w0 w1 w2 w3 : Value, args = #[w0, w1, w2, w3] := by
    have hs : args.size = 4 := by simpa [Cond.value, given_1] using g1
    obtain ⟨L⟩ := args
    match L, hs with
    | [w0, w1, w2, w3], _ => exact ⟨w0, w1, w2, w3, rfl⟩
  have hw := fun d (hd : d ∈ tables_1) => atoms_spec (ws := Jvm.Cond.code x code maxLocals ret :: tables_1) hat d (List.mem_cons_of_mem _ hd)
  have hfit : Fit s := fun {y c} hc i hi => by
    obtain ⟨ha, rfl⟩ := Array.getElem?_eq_some_iff.mp hc
    have q := List.all_eq_true.mp ((Array.all_eq_true_iff_forall_mem.mp hF) _ (Array.getElem_mem ha)) i (List.mem_range.mpr hi)
    simpa [Array.getElem?_eq_getElem hi] using q
  obtain ⟨hsets, hown0⟩ := atoms_of _ (rest_1_c_eq ▸ (show rest_1_c.before _ s = true from hrest))
  have hr0 := Cond.before_iff.mp hown0
  obtain ⟨i0, ei0⟩ := is_v g3
  obtain rfl : w0 = (.int i0) := Option.some.inj ei0
  obtain ⟨i1, ei1⟩ := isL_v g5
  obtain rfl : w1 = (.long i1) := Option.some.inj ei1
  obtain ⟨i2, ei2⟩ := is_v g7
  obtain rfl : w2 = (.int i2) := Option.some.inj ei2
  obtain ⟨i3, ei3⟩ := is_v g8
  obtain rfl : w3 = (.int i3) := Option.some.inj ei3
  obtain ⟨dz, cs, hD, hC, hcs⟩ := own_stat hsets hw
  obtain ⟨n, o, h1, h2, h3, _, L, rfl, ⟨N, rfl⟩, hq⟩ := (c0 l s _ hw s.heap.size s.heap (Nat.le_refl _) i0 i1 i2 i3 (Old.start s) dz hD cs hC hcs) tables_1 p e ha hc hk s m _ below hf ((Spec.applies_iff_loose hf).mp happ).1 ⟨rfl, State.Warmed39.refl s, rfl⟩ trivial
  refine ⟨n, _, h1, h2, h3, hpost _ _ _ _ _ _ ⟨Cond.after_iff.mpr rfl, Cond.after_iff.mpr (eq_i res_at (Term.int_eval (1)) rfl), trivial⟩ ⟨⟨_, rfl⟩, hq.1, hq.2.1, (hq.2.2.sift fun y hy => Or.inr (N y hy)).mono (by decide) (by decide)⟩⟩
theorem main_1_1 : Claimed_1_1 := comes_1 fun _ _ _ _ _ _ h hF => ⟨h.1, hF⟩
theorem main_1_2 : Claimed_1_2 := comes_1 fun _ _ _ _ _ _ h hF => ⟨h.2.1, hF⟩
end Jvm.Pilot.@@N@@
namespace Jvm.Pilot.@@N@@
open Jvm Jvm.ClassFile Sem Op Lib Jvm.Free Jvm.Stand Jvm.Pilot.@@N@@.Jvm.D
/-! MADE BY PROGRAM (witnessworld.py) out of the Statement's table words and the real class files: 32 classes; the members and pool entries that the words name. The judged class is class 1, her method 1. -/
namespace start1
open Jvm.ClassFile
def u (s : String) : CpInfo := .utf8 (stringToUtf16 s)
/-- a pool by its gaps: so many unusable entries, then the entry; so many at the end -/
def gap : Nat → List CpInfo → List CpInfo
  | 0, r => r
  | n + 1, r => .unusable :: gap n r
def poolList (es : List (Nat × CpInfo)) (last : Nat) : List CpInfo := es.foldr (fun e r => gap e.1 (e.2 :: r)) (gap last [])
def pool (es : List (Nat × CpInfo)) (last : Nat) : Array CpInfo := ⟨poolList es last⟩
def fileOf (pool : Array CpInfo) (this : Nat) (attrs : Array Attribute := #[]) (ms : Array MethodInfo := #[]) (fl : Nat := 33) (sup : Nat := 0) (ifs : Array Nat := #[]) (fds : Array FieldInfo := #[]) : ClassFile where
  minorVersion := 0
  majorVersion := 65
  constantPool := pool
  accessFlags := fl
  thisClass := this
  superClass := sup
  interfaces := ifs
  fields := fds
  methods := ms
  attributes := attrs
def plain (name : String) (sup : Option ClassId) : Class where
  name := name
  kind := .ordinary
  loader := none
  accessFlags := 33
  super := sup
  interfaces := #[]
  cf := none
  fields := #[]
  methods := #[]
  instanceTypes := #[]
  staticTypes := #[]
  resolved := #[]
  callSites := []
  init := .initialized
  statics := none
  mirror := none

def pool0 : Array CpInfo := pool [(5, u "<init>"), (0, u "()V"), (1, .class_ 10), (1, u "java/lang/Object")] 113

def k0c0 : Code := { maxStack := 0, maxLocals := 1, code := object_method_1_code, exceptionTable := #[], attributes := #[] }
def k0m0 : Method := { name := "<init>", desc := "()V", sig := { parameters := [], returnType := none }, accessFlags := 1, code := some k0c0 }
/-- java/lang/Object -/
def k0 : Class := { plain "java/lang/Object" none with
  accessFlags := 33
  interfaces := #[]
  cf := some (fileOf pool0 8 #[] #[{ accessFlags := 1, nameIndex := 5, descriptorIndex := 6, attributes := #[] }] 33 0 #[] #[])
  fields := #[]
  methods := #[k0m0]
  instanceTypes := #[]
  staticTypes := #[]
  resolved := Array.replicate 124 none
  statics := none }

def pool1 : Array CpInfo := pool [(2, .class_ 4), (0, .nameAndType 5 6), (0, u "java/lang/Object"), (0, u "<init>"), (0, u "()V"), (0, .integer 524287), (0, .long 17592186044415), (1, .class_ 11), (0, u "java/util/ArrayList"), (0, .methodref 10 3), (0, .methodref 14 15), (0, .class_ 16), (0, .nameAndType 17 18), (0, u "java/lang/String"), (0, u "valueOf"), (0, u "(C)Ljava/lang/String;"), (0, .methodref 10 20), (0, .nameAndType 21 22), (0, u "add"), (0, u "(Ljava/lang/Object;)Z"), (0, .methodref 14 24), (0, .nameAndType 5 25), (0, u "([C)V"), (0, .class_ 27), (0, u "com/example/debit/debit/metering/PackedLines"), (0, .methodref 26 29), (0, .nameAndType 5 30), (0, u "(Ljava/util/List;)V"), (0, .methodref 26 32), (0, .nameAndType 33 34), (0, u "pack"), (0, u "(IJ)J"), (0, .long 17592186044416), (1, .methodref 26 38), (0, .nameAndType 39 40), (0, u "unpack"), (0, u "(J)Lcom/example/debit/debit/csv/SourceLine;"), (0, .methodref 42 43), (0, .class_ 44), (0, .nameAndType 45 46), (0, u "com/example/debit/debit/csv/SourceLine"), (0, u "file"), (0, u "()Ljava/lang/String;"), (0, .methodref 10 48), (0, .nameAndType 49 50), (0, u "get"), (0, u "(I)Ljava/lang/Object;"), (0, .methodref 14 52), (0, .nameAndType 53 22), (0, u "equals"), (0, .methodref 42 55), (0, .nameAndType 56 57), (0, u "number"), (0, u "()J"), (0, .class_ 59), (0, u "com/example/debit/debit/metering/PackedLinesPackPinLaw"), (2, u "law"), (0, u "(IJII)Z")] 3

def k1m0 : Method := { name := "<init>", desc := "()V", sig := { parameters := [], returnType := none }, accessFlags := 1, code := none }
def k1c1 : Code := { maxStack := 7, maxLocals := 18, code := code, exceptionTable := #[], attributes := #[] }
def k1m1 : Method := { name := "law", desc := "(IJII)Z", sig := { parameters := [.int, .long, .int, .int], returnType := some .boolean }, accessFlags := 9, code := some k1c1 }
/-- com/example/debit/debit/metering/PackedLinesPackPinLaw -/
def k1 : Class := { plain "com/example/debit/debit/metering/PackedLinesPackPinLaw" (some 0) with
  accessFlags := 49
  interfaces := #[]
  cf := some (fileOf pool1 58 #[] #[{ accessFlags := 1, nameIndex := 5, descriptorIndex := 6, attributes := #[] }, { accessFlags := 9, nameIndex := 62, descriptorIndex := 63, attributes := #[] }] 49 2 #[] #[])
  fields := #[]
  methods := #[k1m0, k1m1]
  instanceTypes := #[]
  staticTypes := #[]
  resolved := Array.replicate 67 none
  statics := none }

def pool2 : Array CpInfo := pool [(8, .class_ 10), (1, u "java/lang/Iterable"), (24, .class_ 36), (0, u "java/lang/Object")] 25

/-- java/lang/Iterable -/
def k2 : Class := { plain "java/lang/Iterable" (some 0) with
  accessFlags := 1537
  interfaces := #[]
  cf := some (fileOf pool2 8 #[] #[] 1537 35 #[] #[])
  fields := #[]
  methods := #[]
  instanceTypes := #[]
  staticTypes := #[]
  resolved := Array.replicate 62 none
  statics := none }

def pool3 : Array CpInfo := pool [(10, .class_ 12), (1, u "java/util/Collection"), (47, .class_ 61), (0, u "java/lang/Object"), (0, .class_ 63), (0, u "java/lang/Iterable")] 51

/-- java/util/Collection -/
def k3 : Class := { plain "java/util/Collection" (some 0) with
  accessFlags := 1537
  interfaces := #[2]
  cf := some (fileOf pool3 10 #[] #[] 1537 60 #[62] #[])
  fields := #[]
  methods := #[]
  instanceTypes := #[]
  staticTypes := #[]
  resolved := Array.replicate 115 none
  statics := none }

def pool4 : Array CpInfo := pool [(1, .methodref 2 3), (0, .class_ 4), (0, .nameAndType 5 6), (0, u "java/lang/Object"), (0, u "<init>"), (0, u "()V"), (1, .class_ 10), (1, u "java/util/AbstractCollection"), (66, .class_ 78), (0, u "java/util/Collection")] 81

def k4c0 : Code := { maxStack := 1, maxLocals := 1, code := jdk_22_method_1_code, exceptionTable := #[], attributes := #[] }
def k4m0 : Method := { name := "<init>", desc := "()V", sig := { parameters := [], returnType := none }, accessFlags := 4, code := some k4c0 }
/-- java/util/AbstractCollection -/
def k4 : Class := { plain "java/util/AbstractCollection" (some 0) with
  accessFlags := 1057
  interfaces := #[3]
  cf := some (fileOf pool4 8 #[] #[{ accessFlags := 4, nameIndex := 5, descriptorIndex := 6, attributes := #[] }] 1057 2 #[77] #[])
  fields := #[]
  methods := #[k4m0]
  instanceTypes := #[]
  staticTypes := #[]
  resolved := Array.replicate 160 none
  statics := none }

def pool5 : Array CpInfo := pool [(8, .class_ 10), (1, u "java/util/SequencedCollection"), (15, .class_ 27), (0, u "java/lang/Object"), (0, .class_ 29), (0, u "java/util/Collection")] 27

/-- java/util/SequencedCollection -/
def k5 : Class := { plain "java/util/SequencedCollection" (some 0) with
  accessFlags := 1537
  interfaces := #[3]
  cf := some (fileOf pool5 8 #[] #[] 1537 26 #[28] #[])
  fields := #[]
  methods := #[]
  instanceTypes := #[]
  staticTypes := #[]
  resolved := Array.replicate 57 none
  statics := none }

def pool6 : Array CpInfo := pool [(8, .class_ 10), (1, u "java/util/List"), (64, u "get"), (0, u "(I)Ljava/lang/Object;"), (26, .class_ 104), (0, u "java/lang/Object"), (15, .class_ 121), (0, u "java/util/SequencedCollection")] 129

def k6m0 : Method := { name := "get", desc := "(I)Ljava/lang/Object;", sig := { parameters := [.int], returnType := some (.object "java/lang/Object") }, accessFlags := 1025, code := none }
/-- java/util/List -/
def k6 : Class := { plain "java/util/List" (some 0) with
  accessFlags := 1537
  interfaces := #[5]
  cf := some (fileOf pool6 8 #[] #[{ accessFlags := 1025, nameIndex := 75, descriptorIndex := 76, attributes := #[] }] 1537 103 #[120] #[])
  fields := #[]
  methods := #[k6m0]
  instanceTypes := #[]
  staticTypes := #[]
  resolved := Array.replicate 251 none
  statics := none }

def pool7 : Array CpInfo := pool [(1, .methodref 2 3), (0, .class_ 4), (0, .nameAndType 5 6), (0, u "java/util/AbstractCollection"), (0, u "<init>"), (0, u "()V"), (0, .fieldref 8 9), (0, .class_ 10), (0, .nameAndType 11 12), (0, u "java/util/AbstractList"), (0, u "modCount"), (0, u "I"), (64, .class_ 78), (0, u "java/util/AbstractList$Itr"), (3, .class_ 83), (0, u "java/util/AbstractList$ListItr"), (9, .class_ 94), (0, u "java/util/AbstractList$RandomAccessSubList"), (3, .class_ 99), (0, u "java/util/AbstractList$SubList"), (33, .class_ 134), (0, u "java/util/List"), (73, .class_ 209), (0, u "java/util/AbstractList$SubList$1"), (0, .class_ 211), (0, u "java/util/AbstractList$RandomAccessSpliterator")] 6

def k7c0 : Code := { maxStack := 2, maxLocals := 1, code := jdk_39_method_1_code, exceptionTable := #[], attributes := #[] }
def k7m0 : Method := { name := "<init>", desc := "()V", sig := { parameters := [], returnType := none }, accessFlags := 4, code := some k7c0 }
/-- java/util/AbstractList -/
def k7 : Class := { plain "java/util/AbstractList" (some 4) with
  accessFlags := 1057
  interfaces := #[6]
  cf := some (fileOf pool7 8 #[.nestMembers #[93, 98, 208, 210, 82, 77]] #[{ accessFlags := 4, nameIndex := 5, descriptorIndex := 6, attributes := #[] }] 1057 2 #[133] #[{ accessFlags := 132, nameIndex := 11, descriptorIndex := 12, attributes := #[] }])
  fields := #[{ name := "modCount", type := .int, accessFlags := 132, slot := 0, constantValue := 0 }]
  methods := #[k7m0]
  instanceTypes := #[.int]
  staticTypes := #[]
  resolved := Array.replicate 218 none
  statics := none }

def pool8 : Array CpInfo := pool [(1, .class_ 2), (0, u "java/util/RandomAccess"), (0, .class_ 4), (0, u "java/lang/Object")] 2

/-- java/util/RandomAccess -/
def k8 : Class := { plain "java/util/RandomAccess" (some 0) with
  accessFlags := 1537
  interfaces := #[]
  cf := some (fileOf pool8 1 #[] #[] 1537 3 #[] #[])
  fields := #[]
  methods := #[]
  instanceTypes := #[]
  staticTypes := #[]
  resolved := Array.replicate 7 none
  statics := none }

def pool9 : Array CpInfo := pool [(1, .class_ 2), (0, u "java/lang/Cloneable"), (0, .class_ 4), (0, u "java/lang/Object")] 2

/-- java/lang/Cloneable -/
def k9 : Class := { plain "java/lang/Cloneable" (some 0) with
  accessFlags := 1537
  interfaces := #[]
  cf := some (fileOf pool9 1 #[] #[] 1537 3 #[] #[])
  fields := #[]
  methods := #[]
  instanceTypes := #[]
  staticTypes := #[]
  resolved := Array.replicate 7 none
  statics := none }

def pool10 : Array CpInfo := pool [(1, .class_ 2), (0, u "java/io/Serializable"), (0, .class_ 4), (0, u "java/lang/Object")] 2

/-- java/io/Serializable -/
def k10 : Class := { plain "java/io/Serializable" (some 0) with
  accessFlags := 1537
  interfaces := #[]
  cf := some (fileOf pool10 1 #[] #[] 1537 3 #[] #[])
  fields := #[]
  methods := #[]
  instanceTypes := #[]
  staticTypes := #[]
  resolved := Array.replicate 7 none
  statics := none }

def pool11 : Array CpInfo := pool [(1, .methodref 2 3), (0, .class_ 4), (0, .nameAndType 5 6), (0, u "java/util/AbstractList"), (0, u "<init>"), (0, u "()V"), (0, .class_ 8), (0, u "java/lang/Object"), (0, .fieldref 10 11), (0, .class_ 12), (0, .nameAndType 13 14), (0, u "java/util/ArrayList"), (0, u "elementData"), (0, u "[Ljava/lang/Object;"), (2, u "EMPTY_ELEMENTDATA"), (21, .fieldref 10 40), (0, .nameAndType 41 14), (0, u "DEFAULTCAPACITY_EMPTY_ELEMENTDATA"), (5, u "()[Ljava/lang/Object;"), (0, .fieldref 10 49), (0, .nameAndType 50 51), (0, u "size"), (0, u "I"), (11, .fieldref 10 64), (0, .nameAndType 65 51), (0, u "modCount"), (3, .methodref 10 70), (0, .nameAndType 71 72), (0, u "grow"), (0, u "(I)[Ljava/lang/Object;"), (6, .methodref 80 81), (0, .class_ 82), (0, .nameAndType 83 84), (0, u "java/lang/Math"), (0, u "max"), (0, u "(II)I"), (11, u "(Ljava/lang/Object;)Z"), (21, .methodref 119 120), (0, .class_ 121), (0, .nameAndType 122 84), (0, u "java/util/Objects"), (0, u "checkIndex"), (0, .methodref 10 124), (0, .nameAndType 13 125), (0, u "(I)Ljava/lang/Object;"), (3, .methodref 10 130), (0, .nameAndType 71 47), (0, .methodref 10 132), (0, .nameAndType 133 134), (0, u "add"), (0, u "(Ljava/lang/Object;[Ljava/lang/Object;I)V"), (13, .class_ 149), (0, u "java/util/List"), (112, .class_ 263), (0, u "java/util/ArrayList$ListItr"), (3, .class_ 268), (0, u "java/util/ArrayList$Itr"), (7, .class_ 277), (0, u "java/util/ArrayList$SubList"), (12, .class_ 291), (0, u "java/util/ArrayList$ArrayListSpliterator"), (37, .class_ 330), (0, u "java/util/RandomAccess"), (0, .class_ 332), (0, u "java/lang/Cloneable"), (0, .class_ 334), (0, u "java/io/Serializable"), (0, u "serialVersionUID"), (0, u "J"), (3, u "DEFAULT_CAPACITY"), (40, u "get"), (118, .class_ 501), (0, u "java/util/ArrayList$SubList$2"), (0, .class_ 503), (0, u "java/util/ArrayList$SubList$1")] 5

def k11c0 : Code := { maxStack := 2, maxLocals := 1, code := jdk_38_method_2_code, exceptionTable := #[], attributes := #[] }
def k11m0 : Method := { name := "<init>", desc := "()V", sig := { parameters := [], returnType := none }, accessFlags := 1, code := some k11c0 }
def k11c1 : Code := { maxStack := 4, maxLocals := 4, code := jdk_38_method_6_code, exceptionTable := #[], attributes := #[] }
def k11m1 : Method := { name := "grow", desc := "(I)[Ljava/lang/Object;", sig := { parameters := [.int], returnType := some (.array (.object "java/lang/Object")) }, accessFlags := 2, code := some k11c1 }
def k11c2 : Code := { maxStack := 3, maxLocals := 1, code := jdk_38_method_7_code, exceptionTable := #[], attributes := #[] }
def k11m2 : Method := { name := "grow", desc := "()[Ljava/lang/Object;", sig := { parameters := [], returnType := some (.array (.object "java/lang/Object")) }, accessFlags := 2, code := some k11c2 }
def k11c3 : Code := { maxStack := 2, maxLocals := 2, code := jdk_38_method_18_code, exceptionTable := #[], attributes := #[] }
def k11m3 : Method := { name := "elementData", desc := "(I)Ljava/lang/Object;", sig := { parameters := [.int], returnType := some (.object "java/lang/Object") }, accessFlags := 0, code := some k11c3 }
def k11c4 : Code := { maxStack := 2, maxLocals := 2, code := jdk_38_method_20_code, exceptionTable := #[], attributes := #[] }
def k11m4 : Method := { name := "get", desc := "(I)Ljava/lang/Object;", sig := { parameters := [.int], returnType := some (.object "java/lang/Object") }, accessFlags := 1, code := some k11c4 }
def k11c5 : Code := { maxStack := 3, maxLocals := 4, code := jdk_38_method_24_code, exceptionTable := #[], attributes := #[] }
def k11m5 : Method := { name := "add", desc := "(Ljava/lang/Object;[Ljava/lang/Object;I)V", sig := { parameters := [(.object "java/lang/Object"), (.array (.object "java/lang/Object")), .int], returnType := none }, accessFlags := 2, code := some k11c5 }
def k11c6 : Code := { maxStack := 4, maxLocals := 2, code := jdk_38_method_25_code, exceptionTable := #[], attributes := #[] }
def k11m6 : Method := { name := "add", desc := "(Ljava/lang/Object;)Z", sig := { parameters := [(.object "java/lang/Object")], returnType := some .boolean }, accessFlags := 1, code := some k11c6 }
/-- java/util/ArrayList -/
def k11 : Class := { plain "java/util/ArrayList" (some 7) with
  accessFlags := 33
  interfaces := #[6, 8, 9, 10]
  cf := some (fileOf pool11 10 #[.nestMembers #[290, 276, 500, 502, 262, 267]] #[{ accessFlags := 1, nameIndex := 5, descriptorIndex := 6, attributes := #[] }, { accessFlags := 2, nameIndex := 71, descriptorIndex := 72, attributes := #[] }, { accessFlags := 2, nameIndex := 71, descriptorIndex := 47, attributes := #[] }, { accessFlags := 0, nameIndex := 13, descriptorIndex := 125, attributes := #[] }, { accessFlags := 1, nameIndex := 381, descriptorIndex := 125, attributes := #[] }, { accessFlags := 2, nameIndex := 133, descriptorIndex := 134, attributes := #[] }, { accessFlags := 1, nameIndex := 133, descriptorIndex := 96, attributes := #[] }] 33 2 #[148, 329, 331, 333] #[{ accessFlags := 26, nameIndex := 335, descriptorIndex := 336, attributes := #[] }, { accessFlags := 26, nameIndex := 340, descriptorIndex := 51, attributes := #[] }, { accessFlags := 26, nameIndex := 17, descriptorIndex := 14, attributes := #[] }, { accessFlags := 26, nameIndex := 41, descriptorIndex := 14, attributes := #[] }, { accessFlags := 128, nameIndex := 13, descriptorIndex := 14, attributes := #[] }, { accessFlags := 2, nameIndex := 50, descriptorIndex := 51, attributes := #[] }])
  fields := #[{ name := "serialVersionUID", type := .long, accessFlags := 26, slot := 0, constantValue := 0 }, { name := "DEFAULT_CAPACITY", type := .int, accessFlags := 26, slot := 1, constantValue := 0 }, { name := "EMPTY_ELEMENTDATA", type := (.array (.object "java/lang/Object")), accessFlags := 26, slot := 2, constantValue := 0 }, { name := "DEFAULTCAPACITY_EMPTY_ELEMENTDATA", type := (.array (.object "java/lang/Object")), accessFlags := 26, slot := 3, constantValue := 0 }, { name := "elementData", type := (.array (.object "java/lang/Object")), accessFlags := 128, slot := 1, constantValue := 0 }, { name := "size", type := .int, accessFlags := 2, slot := 2, constantValue := 0 }]
  methods := #[k11m0, k11m1, k11m2, k11m3, k11m4, k11m5, k11m6]
  instanceTypes := #[.int, (.array (.object "java/lang/Object")), .int]
  staticTypes := #[.long, .int, (.array (.object "java/lang/Object")), (.array (.object "java/lang/Object"))]
  resolved := Array.replicate 509 none
  statics := some 0 }

def pool12 : Array CpInfo := pool [(1, .class_ 2), (0, u "java/lang/Comparable"), (0, .class_ 4), (0, u "java/lang/Object")] 7

/-- java/lang/Comparable -/
def k12 : Class := { plain "java/lang/Comparable" (some 0) with
  accessFlags := 1537
  interfaces := #[]
  cf := some (fileOf pool12 1 #[] #[] 1537 3 #[] #[])
  fields := #[]
  methods := #[]
  instanceTypes := #[]
  staticTypes := #[]
  resolved := Array.replicate 12 none
  statics := none }

def pool13 : Array CpInfo := pool [(2, .class_ 4), (1, u "java/lang/CharSequence"), (42, .class_ 48), (0, u "java/lang/CharSequence$1CodePointIterator"), (10, .class_ 60), (0, u "java/lang/CharSequence$1CharIterator"), (5, .class_ 67), (0, u "java/lang/Object")] 63

/-- java/lang/CharSequence -/
def k13 : Class := { plain "java/lang/CharSequence" (some 0) with
  accessFlags := 1537
  interfaces := #[]
  cf := some (fileOf pool13 2 #[.nestMembers #[47, 59]] #[] 1537 66 #[] #[])
  fields := #[]
  methods := #[]
  instanceTypes := #[]
  staticTypes := #[]
  resolved := Array.replicate 131 none
  statics := none }

def pool14 : Array CpInfo := pool [(1, .class_ 2), (0, u "java/lang/constant/Constable"), (0, .class_ 4), (0, u "java/lang/Object")] 6

/-- java/lang/constant/Constable -/
def k14 : Class := { plain "java/lang/constant/Constable" (some 0) with
  accessFlags := 1537
  interfaces := #[]
  cf := some (fileOf pool14 1 #[] #[] 1537 3 #[] #[])
  fields := #[]
  methods := #[]
  instanceTypes := #[]
  staticTypes := #[]
  resolved := Array.replicate 11 none
  statics := none }

def pool15 : Array CpInfo := pool [(1, .class_ 2), (0, u "java/lang/constant/ConstantDesc"), (0, .class_ 4), (0, u "java/lang/Object")] 32

/-- java/lang/constant/ConstantDesc -/
def k15 : Class := { plain "java/lang/constant/ConstantDesc" (some 0) with
  accessFlags := 1537
  interfaces := #[]
  cf := some (fileOf pool15 1 #[] #[] 1537 3 #[] #[])
  fields := #[]
  methods := #[]
  instanceTypes := #[]
  staticTypes := #[]
  resolved := Array.replicate 37 none
  statics := none }

def pool16 : Array CpInfo := pool [(1, .methodref 2 3), (0, .class_ 4), (0, .nameAndType 5 6), (0, u "java/lang/Object"), (0, u "<init>"), (0, u "()V"), (2, .fieldref 10 11), (0, .class_ 12), (0, .nameAndType 13 14), (0, u "java/lang/String"), (0, u "value"), (0, u "[B"), (0, .fieldref 10 16), (0, .nameAndType 17 18), (0, u "coder"), (0, u "B"), (2, u "hash"), (0, u "I"), (2, u "hashIsZero"), (0, u "Z"), (0, .methodref 10 28), (0, .nameAndType 5 29), (0, u "([CIILjava/lang/Void;)V"), (8, .fieldref 10 39), (0, .nameAndType 40 26), (0, u "COMPACT_STRINGS"), (1, .class_ 44), (1, u "java/lang/StringUTF16"), (0, u "compress"), (1, .methodref 42 48), (0, .nameAndType 49 50), (0, u "coderFromArrayLen"), (0, u "([BI)B"), (2, u "toBytes"), (53, .class_ 109), (1, u "java/lang/StringLatin1"), (67, .methodref 42 178), (0, .nameAndType 45 179), (0, u "([CII)[B"), (29, .methodref 10 210), (0, .nameAndType 5 211), (0, u "([BB)V"), (157, u "(C)Z"), (173, u "equals"), (29, u "(Ljava/lang/Object;)Z"), (1, .class_ 576), (0, u "java/lang/CharSequence"), (22, u "CASE_INSENSITIVE_ORDER"), (0, u "Ljava/util/Comparator;"), (181, u "valueOf"), (0, u "(C)Ljava/lang/String;"), (226, u "([C)V"), (4, .methodref 107 1016), (0, .nameAndType 1017 369), (0, u "canEncode"), (0, .methodref 107 1019), (0, .nameAndType 53 1020), (0, u "(C)[B"), (80, u "serialPersistentFields"), (0, u "[Ljava/io/ObjectStreamField;"), (0, .class_ 1104), (0, u "java/lang/String$CaseInsensitiveComparator"), (1, .class_ 1107), (0, u "java/io/Serializable"), (0, .class_ 1109), (0, u "java/lang/Comparable"), (0, .class_ 1111), (0, u "java/lang/constant/Constable"), (0, .class_ 1113), (0, u "java/lang/constant/ConstantDesc"), (2, u "serialVersionUID"), (0, u "J"), (3, u "REPL"), (0, u "C"), (2, u "LATIN1"), (1, u "UTF16")] 323

def k16m0 : Method := { name := "<init>", desc := "()V", sig := { parameters := [], returnType := none }, accessFlags := 1, code := none }
def k16c1 : Code := { maxStack := 5, maxLocals := 2, code := jdk_42_method_3_code, exceptionTable := #[], attributes := #[] }
def k16m1 : Method := { name := "<init>", desc := "([C)V", sig := { parameters := [(.array .char)], returnType := none }, accessFlags := 1, code := some k16c1 }
def k16c2 : Code := { maxStack := 2, maxLocals := 3, code := jdk_42_method_66_code, exceptionTable := #[], attributes := #[] }
def k16m2 : Method := { name := "equals", desc := "(Ljava/lang/Object;)Z", sig := { parameters := [(.object "java/lang/Object")], returnType := some .boolean }, accessFlags := 1, code := some k16c2 }
def k16c3 : Code := { maxStack := 4, maxLocals := 1, code := jdk_42_method_139_code, exceptionTable := #[], attributes := #[] }
def k16m3 : Method := { name := "valueOf", desc := "(C)Ljava/lang/String;", sig := { parameters := [.char], returnType := some (.object "java/lang/String") }, accessFlags := 9, code := some k16c3 }
def k16c4 : Code := { maxStack := 4, maxLocals := 6, code := jdk_42_method_149_code, exceptionTable := #[], attributes := #[] }
def k16m4 : Method := { name := "<init>", desc := "([CIILjava/lang/Void;)V", sig := { parameters := [(.array .char), .int, .int, (.object "java/lang/Void")], returnType := none }, accessFlags := 2, code := some k16c4 }
def k16c5 : Code := { maxStack := 2, maxLocals := 3, code := jdk_42_method_151_code, exceptionTable := #[], attributes := #[] }
def k16m5 : Method := { name := "<init>", desc := "([BB)V", sig := { parameters := [(.array .byte), .byte], returnType := none }, accessFlags := 0, code := some k16c5 }
/-- java/lang/String -/
def k16 : Class := { plain "java/lang/String" (some 0) with
  accessFlags := 49
  interfaces := #[10, 12, 13, 14, 15]
  cf := some (fileOf pool16 10 #[.nestMembers #[1103]] #[{ accessFlags := 1, nameIndex := 5, descriptorIndex := 6, attributes := #[] }, { accessFlags := 1, nameIndex := 5, descriptorIndex := 1010, attributes := #[] }, { accessFlags := 1, nameIndex := 543, descriptorIndex := 573, attributes := #[] }, { accessFlags := 9, nameIndex := 782, descriptorIndex := 783, attributes := #[] }, { accessFlags := 2, nameIndex := 5, descriptorIndex := 29, attributes := #[] }, { accessFlags := 0, nameIndex := 5, descriptorIndex := 211, attributes := #[] }] 49 2 #[1106, 1108, 575, 1110, 1112] #[{ accessFlags := 18, nameIndex := 13, descriptorIndex := 14, attributes := #[] }, { accessFlags := 18, nameIndex := 17, descriptorIndex := 18, attributes := #[] }, { accessFlags := 2, nameIndex := 21, descriptorIndex := 22, attributes := #[] }, { accessFlags := 2, nameIndex := 25, descriptorIndex := 26, attributes := #[] }, { accessFlags := 26, nameIndex := 1116, descriptorIndex := 1117, attributes := #[] }, { accessFlags := 24, nameIndex := 40, descriptorIndex := 26, attributes := #[] }, { accessFlags := 26, nameIndex := 1101, descriptorIndex := 1102, attributes := #[] }, { accessFlags := 26, nameIndex := 1121, descriptorIndex := 1122, attributes := #[] }, { accessFlags := 25, nameIndex := 599, descriptorIndex := 600, attributes := #[] }, { accessFlags := 24, nameIndex := 1125, descriptorIndex := 18, attributes := #[] }, { accessFlags := 24, nameIndex := 1127, descriptorIndex := 18, attributes := #[] }])
  fields := #[{ name := "value", type := (.array .byte), accessFlags := 18, slot := 0, constantValue := 0 }, { name := "coder", type := .byte, accessFlags := 18, slot := 1, constantValue := 0 }, { name := "hash", type := .int, accessFlags := 2, slot := 2, constantValue := 0 }, { name := "hashIsZero", type := .boolean, accessFlags := 2, slot := 3, constantValue := 0 }, { name := "serialVersionUID", type := .long, accessFlags := 26, slot := 0, constantValue := 0 }, { name := "COMPACT_STRINGS", type := .boolean, accessFlags := 24, slot := 1, constantValue := 0 }, { name := "serialPersistentFields", type := (.array (.object "java/io/ObjectStreamField")), accessFlags := 26, slot := 2, constantValue := 0 }, { name := "REPL", type := .char, accessFlags := 26, slot := 3, constantValue := 0 }, { name := "CASE_INSENSITIVE_ORDER", type := (.object "java/util/Comparator"), accessFlags := 25, slot := 4, constantValue := 0 }, { name := "LATIN1", type := .byte, accessFlags := 24, slot := 5, constantValue := 0 }, { name := "UTF16", type := .byte, accessFlags := 24, slot := 6, constantValue := 0 }]
  methods := #[k16m0, k16m1, k16m2, k16m3, k16m4, k16m5]
  instanceTypes := #[(.array .byte), .byte, .int, .boolean]
  staticTypes := #[.long, .boolean, (.array (.object "java/io/ObjectStreamField")), .char, (.object "java/util/Comparator"), .byte, .byte]
  resolved := Array.replicate 1451 none
  statics := some 1 }

def pool17 : Array CpInfo := pool [(4, .class_ 6), (1, u "java/lang/Object"), (0, u "<init>"), (0, u "()V"), (5, .class_ 16), (1, u "java/lang/StringLatin1"), (73, u "canEncode"), (14, u "(C)Z"), (15, u "$assertionsDisabled"), (0, u "Z"), (98, .class_ 223), (1, u "java/lang/StringLatin1$LinesSpliterator"), (156, u "toBytes"), (1, u "(C)[B"), (7, .class_ 391), (0, u "java/lang/StringLatin1$CharsSpliterator")] 3

def k17m0 : Method := { name := "<init>", desc := "()V", sig := { parameters := [], returnType := none }, accessFlags := 0, code := none }
def k17c1 : Code := { maxStack := 2, maxLocals := 1, code := jdk_43_method_3_code, exceptionTable := #[], attributes := #[] }
def k17m1 : Method := { name := "canEncode", desc := "(C)Z", sig := { parameters := [.char], returnType := some .boolean }, accessFlags := 9, code := some k17c1 }
def k17c2 : Code := { maxStack := 4, maxLocals := 1, code := jdk_43_method_46_code, exceptionTable := #[], attributes := #[] }
def k17m2 : Method := { name := "toBytes", desc := "(C)[B", sig := { parameters := [.char], returnType := some (.array .byte) }, accessFlags := 9, code := some k17c2 }
/-- java/lang/StringLatin1 -/
def k17 : Class := { plain "java/lang/StringLatin1" (some 0) with
  accessFlags := 48
  interfaces := #[]
  cf := some (fileOf pool17 14 #[.nestMembers #[390, 221]] #[{ accessFlags := 0, nameIndex := 7, descriptorIndex := 8, attributes := #[] }, { accessFlags := 9, nameIndex := 90, descriptorIndex := 105, attributes := #[] }, { accessFlags := 9, nameIndex := 380, descriptorIndex := 382, attributes := #[] }] 48 4 #[] #[{ accessFlags := 4120, nameIndex := 121, descriptorIndex := 122, attributes := #[] }])
  fields := #[{ name := "$assertionsDisabled", type := .boolean, accessFlags := 4120, slot := 0, constantValue := 0 }]
  methods := #[k17m0, k17m1, k17m2]
  instanceTypes := #[]
  staticTypes := #[.boolean]
  resolved := Array.replicate 395 none
  statics := none }

def pool18 : Array CpInfo := pool [(1, .class_ 2), (0, u "java/lang/Math"), (1, .class_ 6), (1, u "java/lang/Object"), (0, u "<init>"), (0, u "()V"), (89, .class_ 100), (1, u "java/lang/Math$RandomNumberGeneratorHolder"), (71, u "negativeZeroFloatBits"), (0, u "J"), (2, u "negativeZeroDoubleBits"), (21, u "max"), (46, u "$assertionsDisabled"), (0, u "Z"), (88, u "(II)I"), (2, u "twoToTheDoubleScaleDown"), (0, u "D"), (4, u "twoToTheDoubleScaleUp"), (9, u "E"), (3, u "PI"), (2, u "TAU"), (2, u "DEGREES_TO_RADIANS"), (0, u "RADIANS_TO_DEGREES")] 94

def k18m0 : Method := { name := "<init>", desc := "()V", sig := { parameters := [], returnType := none }, accessFlags := 2, code := none }
def k18c1 : Code := { maxStack := 2, maxLocals := 2, code := jdk_29_method_65_code, exceptionTable := #[], attributes := #[] }
def k18m1 : Method := { name := "max", desc := "(II)I", sig := { parameters := [.int, .int], returnType := some .int }, accessFlags := 9, code := some k18c1 }
/-- java/lang/Math -/
def k18 : Class := { plain "java/lang/Math" (some 0) with
  accessFlags := 49
  interfaces := #[]
  cf := some (fileOf pool18 1 #[.nestMembers #[98]] #[{ accessFlags := 2, nameIndex := 7, descriptorIndex := 8, attributes := #[] }, { accessFlags := 9, nameIndex := 198, descriptorIndex := 335, attributes := #[] }] 49 4 #[] #[{ accessFlags := 25, nameIndex := 354, descriptorIndex := 339, attributes := #[] }, { accessFlags := 25, nameIndex := 358, descriptorIndex := 339, attributes := #[] }, { accessFlags := 25, nameIndex := 361, descriptorIndex := 339, attributes := #[] }, { accessFlags := 26, nameIndex := 364, descriptorIndex := 339, attributes := #[] }, { accessFlags := 26, nameIndex := 365, descriptorIndex := 339, attributes := #[] }, { accessFlags := 26, nameIndex := 172, descriptorIndex := 173, attributes := #[] }, { accessFlags := 26, nameIndex := 176, descriptorIndex := 173, attributes := #[] }, { accessFlags := 8, nameIndex := 344, descriptorIndex := 339, attributes := #[] }, { accessFlags := 8, nameIndex := 338, descriptorIndex := 339, attributes := #[] }, { accessFlags := 4120, nameIndex := 245, descriptorIndex := 246, attributes := #[] }])
  fields := #[{ name := "E", type := .double, accessFlags := 25, slot := 0, constantValue := 0 }, { name := "PI", type := .double, accessFlags := 25, slot := 1, constantValue := 0 }, { name := "TAU", type := .double, accessFlags := 25, slot := 2, constantValue := 0 }, { name := "DEGREES_TO_RADIANS", type := .double, accessFlags := 26, slot := 3, constantValue := 0 }, { name := "RADIANS_TO_DEGREES", type := .double, accessFlags := 26, slot := 4, constantValue := 0 }, { name := "negativeZeroFloatBits", type := .long, accessFlags := 26, slot := 5, constantValue := 0 }, { name := "negativeZeroDoubleBits", type := .long, accessFlags := 26, slot := 6, constantValue := 0 }, { name := "twoToTheDoubleScaleUp", type := .double, accessFlags := 8, slot := 7, constantValue := 0 }, { name := "twoToTheDoubleScaleDown", type := .double, accessFlags := 8, slot := 8, constantValue := 0 }, { name := "$assertionsDisabled", type := .boolean, accessFlags := 4120, slot := 9, constantValue := 0 }]
  methods := #[k18m0, k18m1]
  instanceTypes := #[]
  staticTypes := #[.double, .double, .double, .double, .double, .long, .long, .double, .double, .boolean]
  resolved := Array.replicate 460 none
  statics := none }

def pool19 : Array CpInfo := pool [(6, .class_ 8), (1, u "java/lang/Object"), (0, u "<init>"), (0, u "()V"), (1, .class_ 14), (1, u "java/lang/StringUTF16"), (31, u "$assertionsDisabled"), (0, u "Z"), (13, u "HI_BYTE_SHIFT"), (0, u "I"), (2, u "LO_BYTE_SHIFT"), (49, .methodref 12 116), (0, .nameAndType 117 118), (0, u "compress"), (0, u "([CI[BII)I"), (3, u "([CII)[B"), (138, u "coderFromArrayLen"), (0, u "([BI)B"), (106, .class_ 371), (1, u "java/lang/StringUTF16$LinesSpliterator"), (58, u "MAX_LENGTH"), (196, .class_ 628), (0, u "java/lang/StringUTF16$CodePointsSpliterator"), (0, .class_ 630), (0, u "java/lang/StringUTF16$CharsSpliterator")] 4

def k19m0 : Method := { name := "<init>", desc := "()V", sig := { parameters := [], returnType := none }, accessFlags := 0, code := none }
def k19c1 : Code := { maxStack := 2, maxLocals := 2, code := jdk_52_method_15_code, exceptionTable := #[], attributes := #[] }
def k19m1 : Method := { name := "coderFromArrayLen", desc := "([BI)B", sig := { parameters := [(.array .byte), .int], returnType := some .byte }, accessFlags := 8, code := some k19c1 }
def k19c2 : Code := { maxStack := 5, maxLocals := 6, code := jdk_52_method_16_code, exceptionTable := #[], attributes := #[] }
def k19m2 : Method := { name := "compress", desc := "([CII)[B", sig := { parameters := [(.array .char), .int, .int], returnType := some (.array .byte) }, accessFlags := 9, code := some k19c2 }
def k19c3 : Code := { maxStack := 3, maxLocals := 7, code := jdk_52_method_21_code, exceptionTable := #[], attributes := #[] }
def k19m3 : Method := { name := "compress", desc := "([CI[BII)I", sig := { parameters := [(.array .char), .int, (.array .byte), .int, .int], returnType := some .int }, accessFlags := 9, code := some k19c3 }
/-- java/lang/StringUTF16 -/
def k19 : Class := { plain "java/lang/StringUTF16" (some 0) with
  accessFlags := 48
  interfaces := #[]
  cf := some (fileOf pool19 12 #[.nestMembers #[627, 629, 369]] #[{ accessFlags := 0, nameIndex := 9, descriptorIndex := 10, attributes := #[] }, { accessFlags := 8, nameIndex := 261, descriptorIndex := 262, attributes := #[] }, { accessFlags := 9, nameIndex := 117, descriptorIndex := 122, attributes := #[] }, { accessFlags := 9, nameIndex := 117, descriptorIndex := 118, attributes := #[] }] 48 6 #[] #[{ accessFlags := 26, nameIndex := 61, descriptorIndex := 62, attributes := #[] }, { accessFlags := 26, nameIndex := 65, descriptorIndex := 62, attributes := #[] }, { accessFlags := 24, nameIndex := 430, descriptorIndex := 62, attributes := #[] }, { accessFlags := 4120, nameIndex := 46, descriptorIndex := 47, attributes := #[] }])
  fields := #[{ name := "HI_BYTE_SHIFT", type := .int, accessFlags := 26, slot := 0, constantValue := 0 }, { name := "LO_BYTE_SHIFT", type := .int, accessFlags := 26, slot := 1, constantValue := 0 }, { name := "MAX_LENGTH", type := .int, accessFlags := 24, slot := 2, constantValue := 0 }, { name := "$assertionsDisabled", type := .boolean, accessFlags := 4120, slot := 3, constantValue := 0 }]
  methods := #[k19m0, k19m1, k19m2, k19m3]
  instanceTypes := #[]
  staticTypes := #[.int, .int, .int, .boolean]
  resolved := Array.replicate 635 none
  statics := none }

def pool20 : Array CpInfo := pool [(1, .class_ 2), (0, u "com/example/debit/debit/metering/PackedLines"), (2, .methodref 6 7), (0, .class_ 8), (0, .nameAndType 9 10), (0, u "java/lang/Object"), (0, u "<init>"), (0, u "()V"), (0, .fieldref 1 12), (0, .nameAndType 13 14), (0, u "files"), (0, u "Ljava/util/List;"), (0, .long 17592186044415), (1, .integer 524288), (9, .class_ 28), (0, u "com/example/debit/debit/csv/SourceLine"), (0, .interfaceMethodref 30 31), (0, .class_ 32), (0, .nameAndType 33 34), (0, u "java/util/List"), (0, u "get"), (0, u "(I)Ljava/lang/Object;"), (0, .class_ 36), (0, u "java/lang/String"), (0, .methodref 27 38), (0, .nameAndType 9 39), (0, u "(Ljava/lang/String;J)V"), (0, u "FILE_SHIFT"), (0, u "I"), (2, u "MOST_LINE"), (0, u "J"), (0, u "MOST_FILES"), (2, u "(Ljava/util/List;)V"), (3, u "pack"), (0, u "(IJ)J"), (1, u "unpack"), (0, u "(J)Lcom/example/debit/debit/csv/SourceLine;")] 17

def k20c0 : Code := { maxStack := 2, maxLocals := 2, code := prog_40_method_1_code, exceptionTable := #[], attributes := #[] }
def k20m0 : Method := { name := "<init>", desc := "(Ljava/util/List;)V", sig := { parameters := [(.object "java/util/List")], returnType := none }, accessFlags := 0, code := some k20c0 }
def k20c1 : Code := { maxStack := 5, maxLocals := 4, code := prog_40_method_2_code, exceptionTable := #[], attributes := #[] }
def k20m1 : Method := { name := "pack", desc := "(IJ)J", sig := { parameters := [.int, .long], returnType := some .long }, accessFlags := 0, code := some k20c1 }
def k20c2 : Code := { maxStack := 7, maxLocals := 3, code := prog_40_method_3_code, exceptionTable := #[], attributes := #[] }
def k20m2 : Method := { name := "unpack", desc := "(J)Lcom/example/debit/debit/csv/SourceLine;", sig := { parameters := [.long], returnType := some (.object "com/example/debit/debit/csv/SourceLine") }, accessFlags := 0, code := some k20c2 }
/-- com/example/debit/debit/metering/PackedLines -/
def k20 : Class := { plain "com/example/debit/debit/metering/PackedLines" (some 0) with
  accessFlags := 48
  interfaces := #[]
  cf := some (fileOf pool20 1 #[] #[{ accessFlags := 0, nameIndex := 9, descriptorIndex := 49, attributes := #[] }, { accessFlags := 0, nameIndex := 53, descriptorIndex := 54, attributes := #[] }, { accessFlags := 0, nameIndex := 56, descriptorIndex := 57, attributes := #[] }] 48 6 #[] #[{ accessFlags := 26, nameIndex := 40, descriptorIndex := 41, attributes := #[] }, { accessFlags := 26, nameIndex := 44, descriptorIndex := 45, attributes := #[] }, { accessFlags := 26, nameIndex := 46, descriptorIndex := 41, attributes := #[] }, { accessFlags := 18, nameIndex := 13, descriptorIndex := 14, attributes := #[] }])
  fields := #[{ name := "FILE_SHIFT", type := .int, accessFlags := 26, slot := 0, constantValue := 0 }, { name := "MOST_LINE", type := .long, accessFlags := 26, slot := 1, constantValue := 0 }, { name := "MOST_FILES", type := .int, accessFlags := 26, slot := 2, constantValue := 0 }, { name := "files", type := (.object "java/util/List"), accessFlags := 18, slot := 0, constantValue := 0 }]
  methods := #[k20m0, k20m1, k20m2]
  instanceTypes := #[(.object "java/util/List")]
  staticTypes := #[.int, .long, .int]
  resolved := Array.replicate 75 none
  statics := none }

def pool21 : Array CpInfo := pool [(1, .methodref 2 3), (0, .class_ 4), (0, .nameAndType 5 6), (0, u "java/lang/Object"), (0, u "<init>"), (0, u "()V"), (0, .string 8), (0, u "file"), (0, .methodref 10 11), (0, .class_ 12), (0, .nameAndType 13 14), (0, u "java/util/Objects"), (0, u "requireNonNull"), (0, u "(Ljava/lang/Object;Ljava/lang/String;)Ljava/lang/Object;"), (0, .class_ 16), (0, u "java/lang/String"), (0, .fieldref 18 19), (0, .class_ 20), (0, .nameAndType 8 21), (0, u "com/example/debit/debit/csv/SourceLine"), (0, u "Ljava/lang/String;"), (0, .fieldref 18 23), (0, .nameAndType 24 25), (0, u "number"), (0, u "J"), (10, u "(Ljava/lang/String;J)V"), (2, u "()Ljava/lang/String;"), (0, u "()J")] 20

def k21c0 : Code := { maxStack := 3, maxLocals := 4, code := prog_21_method_1_code, exceptionTable := #[], attributes := #[] }
def k21m0 : Method := { name := "<init>", desc := "(Ljava/lang/String;J)V", sig := { parameters := [(.object "java/lang/String"), .long], returnType := none }, accessFlags := 1, code := some k21c0 }
def k21c1 : Code := { maxStack := 1, maxLocals := 1, code := prog_21_method_2_code, exceptionTable := #[], attributes := #[] }
def k21m1 : Method := { name := "file", desc := "()Ljava/lang/String;", sig := { parameters := [], returnType := some (.object "java/lang/String") }, accessFlags := 1, code := some k21c1 }
def k21c2 : Code := { maxStack := 2, maxLocals := 1, code := prog_21_method_3_code, exceptionTable := #[], attributes := #[] }
def k21m2 : Method := { name := "number", desc := "()J", sig := { parameters := [], returnType := some .long }, accessFlags := 1, code := some k21c2 }
/-- com/example/debit/debit/csv/SourceLine -/
def k21 : Class := { plain "com/example/debit/debit/csv/SourceLine" (some 0) with
  accessFlags := 49
  interfaces := #[]
  cf := some (fileOf pool21 18 #[] #[{ accessFlags := 1, nameIndex := 5, descriptorIndex := 36, attributes := #[] }, { accessFlags := 1, nameIndex := 8, descriptorIndex := 39, attributes := #[] }, { accessFlags := 1, nameIndex := 24, descriptorIndex := 40, attributes := #[] }] 49 2 #[] #[{ accessFlags := 18, nameIndex := 8, descriptorIndex := 21, attributes := #[] }, { accessFlags := 18, nameIndex := 24, descriptorIndex := 25, attributes := #[] }])
  fields := #[{ name := "file", type := (.object "java/lang/String"), accessFlags := 18, slot := 0, constantValue := 0 }, { name := "number", type := .long, accessFlags := 18, slot := 1, constantValue := 0 }]
  methods := #[k21m0, k21m1, k21m2]
  instanceTypes := #[(.object "java/lang/String"), .long]
  staticTypes := #[]
  resolved := Array.replicate 61 none
  statics := none }

def pool22 : Array CpInfo := pool [(2, .class_ 4), (1, u "java/lang/Object"), (0, u "<init>"), (0, u "()V"), (35, .class_ 44), (1, u "java/util/Objects"), (0, u "requireNonNull"), (48, u "(Ljava/lang/Object;Ljava/lang/String;)Ljava/lang/Object;"), (10, .methodref 106 107), (0, .class_ 108), (0, .nameAndType 109 110), (0, u "jdk/internal/util/Preconditions"), (0, u "checkIndex"), (0, u "(IILjava/util/function/BiFunction;)I"), (60, u "(II)I")] 12

def k22m0 : Method := { name := "<init>", desc := "()V", sig := { parameters := [], returnType := none }, accessFlags := 2, code := none }
def k22c1 : Code := { maxStack := 3, maxLocals := 2, code := jdk_31_method_11_code, exceptionTable := #[], attributes := #[] }
def k22m1 : Method := { name := "requireNonNull", desc := "(Ljava/lang/Object;Ljava/lang/String;)Ljava/lang/Object;", sig := { parameters := [(.object "java/lang/Object"), (.object "java/lang/String")], returnType := some (.object "java/lang/Object") }, accessFlags := 9, code := some k22c1 }
def k22c2 : Code := { maxStack := 3, maxLocals := 2, code := jdk_31_method_17_code, exceptionTable := #[], attributes := #[] }
def k22m2 : Method := { name := "checkIndex", desc := "(II)I", sig := { parameters := [.int, .int], returnType := some .int }, accessFlags := 9, code := some k22c2 }
/-- java/util/Objects -/
def k22 : Class := { plain "java/util/Objects" (some 0) with
  accessFlags := 49
  interfaces := #[]
  cf := some (fileOf pool22 42 #[] #[{ accessFlags := 2, nameIndex := 5, descriptorIndex := 6, attributes := #[] }, { accessFlags := 9, nameIndex := 45, descriptorIndex := 94, attributes := #[] }, { accessFlags := 9, nameIndex := 109, descriptorIndex := 171, attributes := #[] }] 49 2 #[] #[])
  fields := #[]
  methods := #[k22m0, k22m1, k22m2]
  instanceTypes := #[]
  staticTypes := #[]
  resolved := Array.replicate 184 none
  statics := none }

def pool23 : Array CpInfo := pool [(2, .class_ 4), (1, u "java/lang/Object"), (0, u "<init>"), (0, u "()V"), (17, .class_ 26), (1, u "jdk/internal/util/Preconditions"), (6, u "checkIndex"), (21, .class_ 56), (0, u "jdk/internal/util/Preconditions$4"), (57, .class_ 115), (0, u "jdk/internal/util/Preconditions$1"), (7, u "SIOOBE_FORMATTER"), (0, u "Ljava/util/function/BiFunction;"), (0, .class_ 126), (0, u "jdk/internal/util/Preconditions$2"), (3, u "AIOOBE_FORMATTER"), (0, .class_ 132), (0, u "jdk/internal/util/Preconditions$3"), (3, u "IOOBE_FORMATTER"), (41, u "(IILjava/util/function/BiFunction;)I")] 15

def k23m0 : Method := { name := "<init>", desc := "()V", sig := { parameters := [], returnType := none }, accessFlags := 1, code := none }
def k23c1 : Code := { maxStack := 3, maxLocals := 3, code := jdk_41_method_11_code, exceptionTable := #[], attributes := #[] }
def k23m1 : Method := { name := "checkIndex", desc := "(IILjava/util/function/BiFunction;)I", sig := { parameters := [.int, .int, (.object "java/util/function/BiFunction")], returnType := some .int }, accessFlags := 9, code := some k23c1 }
/-- jdk/internal/util/Preconditions -/
def k23 : Class := { plain "jdk/internal/util/Preconditions" (some 0) with
  accessFlags := 33
  interfaces := #[]
  cf := some (fileOf pool23 24 #[.nestMembers #[55, 131, 125, 114]] #[{ accessFlags := 1, nameIndex := 5, descriptorIndex := 6, attributes := #[] }, { accessFlags := 9, nameIndex := 33, descriptorIndex := 178, attributes := #[] }] 33 2 #[] #[{ accessFlags := 25, nameIndex := 123, descriptorIndex := 124, attributes := #[] }, { accessFlags := 25, nameIndex := 130, descriptorIndex := 124, attributes := #[] }, { accessFlags := 25, nameIndex := 136, descriptorIndex := 124, attributes := #[] }])
  fields := #[{ name := "SIOOBE_FORMATTER", type := (.object "java/util/function/BiFunction"), accessFlags := 25, slot := 0, constantValue := 0 }, { name := "AIOOBE_FORMATTER", type := (.object "java/util/function/BiFunction"), accessFlags := 25, slot := 1, constantValue := 0 }, { name := "IOOBE_FORMATTER", type := (.object "java/util/function/BiFunction"), accessFlags := 25, slot := 2, constantValue := 0 }]
  methods := #[k23m0, k23m1]
  instanceTypes := #[]
  staticTypes := #[(.object "java/util/function/BiFunction"), (.object "java/util/function/BiFunction"), (.object "java/util/function/BiFunction")]
  resolved := Array.replicate 194 none
  statics := some 2 }

def pool24 : Array CpInfo := pool [(9, u "<init>"), (6, .class_ 18), (1, u "java/lang/Object"), (0, u "()V"), (1, .class_ 23), (1, u "jdk/internal/util/ArraysSupport"), (0, u "LOG2_ARRAY_LONG_INDEX_SCALE"), (0, u "I"), (2, u "U"), (0, u "Ljdk/internal/misc/Unsafe;"), (8, u "BIG_ENDIAN"), (0, u "Z"), (8, u "LOG2_BYTE_BIT_SIZE"), (4, u "LOG2_ARRAY_INT_INDEX_SCALE"), (54, u "JLA"), (0, u "Ljdk/internal/access/JavaLangAccess;"), (11, u "LOG2_ARRAY_BOOLEAN_INDEX_SCALE"), (9, u "LOG2_ARRAY_BYTE_INDEX_SCALE"), (5, u "LOG2_ARRAY_CHAR_INDEX_SCALE"), (5, u "LOG2_ARRAY_SHORT_INDEX_SCALE"), (18, u "LOG2_ARRAY_FLOAT_INDEX_SCALE"), (24, u "LOG2_ARRAY_DOUBLE_INDEX_SCALE"), (89, u "T_BOOLEAN"), (2, u "T_CHAR"), (1, u "T_FLOAT"), (1, u "T_DOUBLE"), (1, u "T_BYTE"), (1, u "T_SHORT"), (1, u "T_INT"), (1, u "T_LONG"), (1, u "SOFT_MAX_ARRAY_LENGTH")] 83

def k24m0 : Method := { name := "<init>", desc := "()V", sig := { parameters := [], returnType := none }, accessFlags := 2, code := none }
/-- jdk/internal/util/ArraysSupport -/
def k24 : Class := { plain "jdk/internal/util/ArraysSupport" (some 0) with
  accessFlags := 33
  interfaces := #[]
  cf := some (fileOf pool24 21 #[] #[{ accessFlags := 2, nameIndex := 9, descriptorIndex := 19, attributes := #[] }] 33 16 #[] #[{ accessFlags := 24, nameIndex := 28, descriptorIndex := 29, attributes := #[] }, { accessFlags := 26, nameIndex := 38, descriptorIndex := 39, attributes := #[] }, { accessFlags := 25, nameIndex := 121, descriptorIndex := 25, attributes := #[] }, { accessFlags := 25, nameIndex := 131, descriptorIndex := 25, attributes := #[] }, { accessFlags := 25, nameIndex := 137, descriptorIndex := 25, attributes := #[] }, { accessFlags := 25, nameIndex := 143, descriptorIndex := 25, attributes := #[] }, { accessFlags := 25, nameIndex := 53, descriptorIndex := 25, attributes := #[] }, { accessFlags := 25, nameIndex := 24, descriptorIndex := 25, attributes := #[] }, { accessFlags := 25, nameIndex := 162, descriptorIndex := 25, attributes := #[] }, { accessFlags := 25, nameIndex := 187, descriptorIndex := 25, attributes := #[] }, { accessFlags := 26, nameIndex := 48, descriptorIndex := 25, attributes := #[] }, { accessFlags := 25, nameIndex := 277, descriptorIndex := 25, attributes := #[] }, { accessFlags := 25, nameIndex := 280, descriptorIndex := 25, attributes := #[] }, { accessFlags := 25, nameIndex := 282, descriptorIndex := 25, attributes := #[] }, { accessFlags := 25, nameIndex := 284, descriptorIndex := 25, attributes := #[] }, { accessFlags := 25, nameIndex := 286, descriptorIndex := 25, attributes := #[] }, { accessFlags := 25, nameIndex := 288, descriptorIndex := 25, attributes := #[] }, { accessFlags := 25, nameIndex := 290, descriptorIndex := 25, attributes := #[] }, { accessFlags := 25, nameIndex := 292, descriptorIndex := 25, attributes := #[] }, { accessFlags := 26, nameIndex := 108, descriptorIndex := 109, attributes := #[] }, { accessFlags := 25, nameIndex := 294, descriptorIndex := 25, attributes := #[] }])
  fields := #[{ name := "U", type := (.object "jdk/internal/misc/Unsafe"), accessFlags := 24, slot := 0, constantValue := 0 }, { name := "BIG_ENDIAN", type := .boolean, accessFlags := 26, slot := 1, constantValue := 0 }, { name := "LOG2_ARRAY_BOOLEAN_INDEX_SCALE", type := .int, accessFlags := 25, slot := 2, constantValue := 0 }, { name := "LOG2_ARRAY_BYTE_INDEX_SCALE", type := .int, accessFlags := 25, slot := 3, constantValue := 0 }, { name := "LOG2_ARRAY_CHAR_INDEX_SCALE", type := .int, accessFlags := 25, slot := 4, constantValue := 0 }, { name := "LOG2_ARRAY_SHORT_INDEX_SCALE", type := .int, accessFlags := 25, slot := 5, constantValue := 0 }, { name := "LOG2_ARRAY_INT_INDEX_SCALE", type := .int, accessFlags := 25, slot := 6, constantValue := 0 }, { name := "LOG2_ARRAY_LONG_INDEX_SCALE", type := .int, accessFlags := 25, slot := 7, constantValue := 0 }, { name := "LOG2_ARRAY_FLOAT_INDEX_SCALE", type := .int, accessFlags := 25, slot := 8, constantValue := 0 }, { name := "LOG2_ARRAY_DOUBLE_INDEX_SCALE", type := .int, accessFlags := 25, slot := 9, constantValue := 0 }, { name := "LOG2_BYTE_BIT_SIZE", type := .int, accessFlags := 26, slot := 10, constantValue := 0 }, { name := "T_BOOLEAN", type := .int, accessFlags := 25, slot := 11, constantValue := 0 }, { name := "T_CHAR", type := .int, accessFlags := 25, slot := 12, constantValue := 0 }, { name := "T_FLOAT", type := .int, accessFlags := 25, slot := 13, constantValue := 0 }, { name := "T_DOUBLE", type := .int, accessFlags := 25, slot := 14, constantValue := 0 }, { name := "T_BYTE", type := .int, accessFlags := 25, slot := 15, constantValue := 0 }, { name := "T_SHORT", type := .int, accessFlags := 25, slot := 16, constantValue := 0 }, { name := "T_INT", type := .int, accessFlags := 25, slot := 17, constantValue := 0 }, { name := "T_LONG", type := .int, accessFlags := 25, slot := 18, constantValue := 0 }, { name := "JLA", type := (.object "jdk/internal/access/JavaLangAccess"), accessFlags := 26, slot := 19, constantValue := 0 }, { name := "SOFT_MAX_ARRAY_LENGTH", type := .int, accessFlags := 25, slot := 20, constantValue := 0 }]
  methods := #[k24m0]
  instanceTypes := #[]
  staticTypes := #[(.object "jdk/internal/misc/Unsafe"), .boolean, .int, .int, .int, .int, .int, .int, .int, .int, .int, .int, .int, .int, .int, .int, .int, .int, .int, (.object "jdk/internal/access/JavaLangAccess"), .int]
  resolved := Array.replicate 378 none
  statics := none }

/-- the primitive byte -/
def k25 : Class := { plain "byte" none with kind := .primitive 'B', accessFlags := 0x411 }
/-- [B -/
def k26 : Class := { plain "[B" (some 0) with kind := .array 25 .byte, interfaces := #[9, 10], accessFlags := 1041 }

/-- the primitive char -/
def k27 : Class := { plain "char" none with kind := .primitive 'C', accessFlags := 0x411 }
/-- [C -/
def k28 : Class := { plain "[C" (some 0) with kind := .array 27 .char, interfaces := #[9, 10], accessFlags := 1041 }

/-- the primitive int -/
def k29 : Class := { plain "int" none with kind := .primitive 'I', accessFlags := 0x411 }
/-- [I -/
def k30 : Class := { plain "[I" (some 0) with kind := .array 29 .int, interfaces := #[9, 10], accessFlags := 1041 }

/-- [Ljava/lang/Object; -/
def k31 : Class := { plain "[Ljava/lang/Object;" (some 0) with kind := .array 0 (.object "java/lang/Object"), interfaces := #[9, 10], accessFlags := 1041 }

def heap : Heap := #[{ cls := 11, slots := #[.long 0, .int 0, .ref 3, .ref 4], vm := .statics 11 },
  { cls := 16, slots := #[.long 0, .int 1, .null, .int 0, .null, .int 0, .int 0], vm := .statics 16 },
  { cls := 23, slots := #[.null, .null, .null], vm := .statics 23 },
  { cls := 31, slots := #[], vm := .none },
  { cls := 31, slots := #[], vm := .none }]
def classes : Array Class := #[k0, k1, k2, k3, k4, k5, k6, k7, k8, k9, k10, k11, k12, k13, k14, k15, k16, k17, k18, k19, k20, k21, k22, k23, k24, k25, k26, k27, k28, k29, k30, k31]
def interned : List (Array UInt16 × Addr) := []
def slotsUsed : Nat := 14
def theMethod : MethodId := ⟨1, 1⟩
def args0 : Array Value := #[.int 5, .long 7, .int 65, .int 66]
def aboutOver (below : List Frame) : State where
  vm := { classes := classes, interned := interned.toArray }
  heap := heap
  slotsUsed := slotsUsed
  threads := #[{ frames := .invoking theMethod args0 :: below }]
def below0 : List Frame := [.native { method := ⟨0, 0⟩, args := #[] }]
def about1 : State := aboutOver below0
def p0 : Program := .bare "" "" ""
def e0 : Env := launch0.env 0 0 0
theorem w_frames : about1.frames = Frame.invoking theMethod args0 :: below0 := rfl
set_option maxRecDepth 65536 in
theorem w_args : argsFit about1.vm theMethod args0 = true := by decide +kernel
set_option maxRecDepth 65536 in
theorem w_heap : heapFits about1 = true := by decide +kernel
set_option maxRecDepth 65536 in
theorem w_runnable : about1.curStatus? = some .runnable := by decide +kernel
set_option maxRecDepth 65536 in
theorem w_alone : about1.alone = true := by decide +kernel
set_option maxRecDepth 65536 in
theorem w_named : about1.methodNamed? x = some theMethod := by decide +kernel
set_option maxRecDepth 65536 in
theorem w_hears : about1.hears theMethod below0 = true := by decide +kernel
set_option maxRecDepth 65536 in
theorem w_ripe : about1.ripe theMethod args0 below0 = true := by decide +kernel
theorem w_running : about1.status = .running := rfl
set_option maxRecDepth 65536 in
theorem w_room : about1.hasRoom e0.platform room_1 = true :=
  launch0.hasRoom_least _ room_1 (by decide +kernel) (by decide +kernel) (by decide +kernel) (by decide +kernel) (by decide +kernel) (by decide +kernel)
theorem allAtoms_all (ts : List Jvm.Cond) (a : Array Jvm.Value) (st : Jvm.State) : (allAtoms ts).before a st = ts.all (fun c => c.before a st) := by
  induction ts with
  | nil => rfl
  | cons c t ih =>
    show (Jvm.Cond.and c (allAtoms t)).before a st = _
    rw [Jvm.Cond.before_and, ih, List.all_cons]
def words1 : List Jvm.Cond := Jvm.Cond.code x code maxLocals ret :: tables_1
/-- a 'code' word, met by the world's own term for the bytes: nothing is compared byte by byte -/
theorem code_word {y : MethodName} {bytes : ByteArray} {mx : Nat} {rt : Option FieldType} {a : Array Value} {s : State} {m : MethodId} {meth : Method} {c : Code} (h1 : s.methodNamed? y = some m) (h2 : s.vm.method? m = some meth) (h3 : meth.code = some c) (h4 : c.code = bytes)
    (h5 : (c.maxLocals == mx && c.exceptionTable.isEmpty && decide (c.maxStack ≤ mostOperands) && decide (meth.sig.returnType = rt) && !meth.locks && decide (parseMethodDescriptor y.desc = some meth.sig)) = true) : (Jvm.Cond.code y bytes mx rt).before a s = true := by
  simp only [Bool.and_eq_true, beq_iff_eq, Bool.not_eq_true', decide_eq_true_eq] at h5
  obtain ⟨⟨⟨⟨⟨g1, g2⟩, g3⟩, g4⟩, g5⟩, g6⟩ := h5
  simp [Cond.before, Cond.holds, Cond.value, h1, h2, h3, h4, g1, g2, g3, g4, g5, g6]
def isCode : Jvm.Cond → Bool
  | .code _ _ _ _ => true
  | _ => false
theorem all_split {L : List Jvm.Cond} {P : Jvm.Cond → Bool} (h1 : L.all (fun c => isCode c || P c) = true) (h2 : ∀ c ∈ L.filter isCode, P c = true) : L.all P = true := by
  refine List.all_eq_true.mpr fun c hc => ?_
  have h := List.all_eq_true.mp h1 c hc
  rcases Bool.eq_false_or_eq_true (isCode c) with hi | hi
  · exact h2 c (List.mem_filter.mpr ⟨hc, hi⟩)
  · simpa [hi] using h
set_option maxRecDepth 65536 in
theorem w_c0 : (Jvm.Cond.code x code maxLocals ret).before args0 about1 = true := code_word (m := ⟨1, 1⟩) (meth := k1m1) (c := k1c1) (by decide +kernel) rfl rfl rfl (by decide +kernel)
set_option maxRecDepth 65536 in
theorem w_c1 : (Jvm.Cond.code ({ cls := "java/util/ArrayList", name := "<init>", desc := "()V" } : Jvm.MethodName) jdk_38_method_2_code (1 : Nat) (Option.none : Option Jvm.ClassFile.FieldType)).before args0 about1 = true := code_word (m := ⟨11, 0⟩) (meth := k11m0) (c := k11c0) (by decide +kernel) rfl rfl rfl (by decide +kernel)
set_option maxRecDepth 65536 in
theorem w_c2 : (Jvm.Cond.code ({ cls := "java/util/AbstractList", name := "<init>", desc := "()V" } : Jvm.MethodName) jdk_39_method_1_code (1 : Nat) (Option.none : Option Jvm.ClassFile.FieldType)).before args0 about1 = true := code_word (m := ⟨7, 0⟩) (meth := k7m0) (c := k7c0) (by decide +kernel) rfl rfl rfl (by decide +kernel)
set_option maxRecDepth 65536 in
theorem w_c3 : (Jvm.Cond.code ({ cls := "java/util/AbstractCollection", name := "<init>", desc := "()V" } : Jvm.MethodName) jdk_22_method_1_code (1 : Nat) (Option.none : Option Jvm.ClassFile.FieldType)).before args0 about1 = true := code_word (m := ⟨4, 0⟩) (meth := k4m0) (c := k4c0) (by decide +kernel) rfl rfl rfl (by decide +kernel)
set_option maxRecDepth 65536 in
theorem w_c4 : (Jvm.Cond.code ({ cls := "java/lang/Object", name := "<init>", desc := "()V" } : Jvm.MethodName) object_method_1_code (1 : Nat) (Option.none : Option Jvm.ClassFile.FieldType)).before args0 about1 = true := code_word (m := ⟨0, 0⟩) (meth := k0m0) (c := k0c0) (by decide +kernel) rfl rfl rfl (by decide +kernel)
set_option maxRecDepth 65536 in
theorem w_c5 : (Jvm.Cond.code ({ cls := "java/lang/String", name := "valueOf", desc := "(C)Ljava/lang/String;" } : Jvm.MethodName) jdk_42_method_139_code (1 : Nat) (Option.some (Jvm.ClassFile.FieldType.object "java/lang/String"))).before args0 about1 = true := code_word (m := ⟨16, 3⟩) (meth := k16m3) (c := k16c3) (by decide +kernel) rfl rfl rfl (by decide +kernel)
set_option maxRecDepth 65536 in
theorem w_c6 : (Jvm.Cond.code ({ cls := "java/lang/StringLatin1", name := "canEncode", desc := "(C)Z" } : Jvm.MethodName) jdk_43_method_3_code (1 : Nat) (Option.some Jvm.ClassFile.FieldType.boolean)).before args0 about1 = true := code_word (m := ⟨17, 1⟩) (meth := k17m1) (c := k17c1) (by decide +kernel) rfl rfl rfl (by decide +kernel)
set_option maxRecDepth 65536 in
theorem w_c7 : (Jvm.Cond.code ({ cls := "java/lang/StringLatin1", name := "toBytes", desc := "(C)[B" } : Jvm.MethodName) jdk_43_method_46_code (1 : Nat) (Option.some (Jvm.ClassFile.FieldType.array Jvm.ClassFile.FieldType.byte))).before args0 about1 = true := code_word (m := ⟨17, 2⟩) (meth := k17m2) (c := k17c2) (by decide +kernel) rfl rfl rfl (by decide +kernel)
set_option maxRecDepth 65536 in
theorem w_c8 : (Jvm.Cond.code ({ cls := "java/lang/String", name := "<init>", desc := "([BB)V" } : Jvm.MethodName) jdk_42_method_151_code (3 : Nat) (Option.none : Option Jvm.ClassFile.FieldType)).before args0 about1 = true := code_word (m := ⟨16, 5⟩) (meth := k16m5) (c := k16c5) (by decide +kernel) rfl rfl rfl (by decide +kernel)
set_option maxRecDepth 65536 in
theorem w_c9 : (Jvm.Cond.code ({ cls := "java/util/ArrayList", name := "add", desc := "(Ljava/lang/Object;)Z" } : Jvm.MethodName) jdk_38_method_25_code (2 : Nat) (Option.some Jvm.ClassFile.FieldType.boolean)).before args0 about1 = true := code_word (m := ⟨11, 6⟩) (meth := k11m6) (c := k11c6) (by decide +kernel) rfl rfl rfl (by decide +kernel)
set_option maxRecDepth 65536 in
theorem w_c10 : (Jvm.Cond.code ({ cls := "java/util/ArrayList", name := "add", desc := "(Ljava/lang/Object;[Ljava/lang/Object;I)V" } : Jvm.MethodName) jdk_38_method_24_code (4 : Nat) (Option.none : Option Jvm.ClassFile.FieldType)).before args0 about1 = true := code_word (m := ⟨11, 5⟩) (meth := k11m5) (c := k11c5) (by decide +kernel) rfl rfl rfl (by decide +kernel)
set_option maxRecDepth 65536 in
theorem w_c11 : (Jvm.Cond.code ({ cls := "java/util/ArrayList", name := "grow", desc := "()[Ljava/lang/Object;" } : Jvm.MethodName) jdk_38_method_7_code (1 : Nat) (Option.some (Jvm.ClassFile.FieldType.array (Jvm.ClassFile.FieldType.object "java/lang/Object")))).before args0 about1 = true := code_word (m := ⟨11, 2⟩) (meth := k11m2) (c := k11c2) (by decide +kernel) rfl rfl rfl (by decide +kernel)
set_option maxRecDepth 65536 in
theorem w_c12 : (Jvm.Cond.code ({ cls := "java/util/ArrayList", name := "grow", desc := "(I)[Ljava/lang/Object;" } : Jvm.MethodName) jdk_38_method_6_code (4 : Nat) (Option.some (Jvm.ClassFile.FieldType.array (Jvm.ClassFile.FieldType.object "java/lang/Object")))).before args0 about1 = true := code_word (m := ⟨11, 1⟩) (meth := k11m1) (c := k11c1) (by decide +kernel) rfl rfl rfl (by decide +kernel)
set_option maxRecDepth 65536 in
theorem w_c13 : (Jvm.Cond.code ({ cls := "java/lang/Math", name := "max", desc := "(II)I" } : Jvm.MethodName) jdk_29_method_65_code (2 : Nat) (Option.some Jvm.ClassFile.FieldType.int)).before args0 about1 = true := code_word (m := ⟨18, 1⟩) (meth := k18m1) (c := k18c1) (by decide +kernel) rfl rfl rfl (by decide +kernel)
set_option maxRecDepth 65536 in
theorem w_c14 : (Jvm.Cond.code ({ cls := "java/lang/String", name := "<init>", desc := "([C)V" } : Jvm.MethodName) jdk_42_method_3_code (2 : Nat) (Option.none : Option Jvm.ClassFile.FieldType)).before args0 about1 = true := code_word (m := ⟨16, 1⟩) (meth := k16m1) (c := k16c1) (by decide +kernel) rfl rfl rfl (by decide +kernel)
set_option maxRecDepth 65536 in
theorem w_c15 : (Jvm.Cond.code ({ cls := "java/lang/String", name := "<init>", desc := "([CIILjava/lang/Void;)V" } : Jvm.MethodName) jdk_42_method_149_code (6 : Nat) (Option.none : Option Jvm.ClassFile.FieldType)).before args0 about1 = true := code_word (m := ⟨16, 4⟩) (meth := k16m4) (c := k16c4) (by decide +kernel) rfl rfl rfl (by decide +kernel)
set_option maxRecDepth 65536 in
theorem w_c16 : (Jvm.Cond.code ({ cls := "java/lang/StringUTF16", name := "compress", desc := "([CII)[B" } : Jvm.MethodName) jdk_52_method_16_code (6 : Nat) (Option.some (Jvm.ClassFile.FieldType.array Jvm.ClassFile.FieldType.byte))).before args0 about1 = true := code_word (m := ⟨19, 2⟩) (meth := k19m2) (c := k19c2) (by decide +kernel) rfl rfl rfl (by decide +kernel)
set_option maxRecDepth 65536 in
theorem w_c17 : (Jvm.Cond.code ({ cls := "java/lang/StringUTF16", name := "compress", desc := "([CI[BII)I" } : Jvm.MethodName) jdk_52_method_21_code (7 : Nat) (Option.some Jvm.ClassFile.FieldType.int)).before args0 about1 = true := code_word (m := ⟨19, 3⟩) (meth := k19m3) (c := k19c3) (by decide +kernel) rfl rfl rfl (by decide +kernel)
set_option maxRecDepth 65536 in
theorem w_c18 : (Jvm.Cond.code ({ cls := "java/lang/StringUTF16", name := "coderFromArrayLen", desc := "([BI)B" } : Jvm.MethodName) jdk_52_method_15_code (2 : Nat) (Option.some Jvm.ClassFile.FieldType.byte)).before args0 about1 = true := code_word (m := ⟨19, 1⟩) (meth := k19m1) (c := k19c1) (by decide +kernel) rfl rfl rfl (by decide +kernel)
set_option maxRecDepth 65536 in
theorem w_c19 : (Jvm.Cond.code ({ cls := "com/example/debit/debit/metering/PackedLines", name := "<init>", desc := "(Ljava/util/List;)V" } : Jvm.MethodName) prog_40_method_1_code (2 : Nat) (Option.none : Option Jvm.ClassFile.FieldType)).before args0 about1 = true := code_word (m := ⟨20, 0⟩) (meth := k20m0) (c := k20c0) (by decide +kernel) rfl rfl rfl (by decide +kernel)
set_option maxRecDepth 65536 in
theorem w_c20 : (Jvm.Cond.code ({ cls := "com/example/debit/debit/metering/PackedLines", name := "pack", desc := "(IJ)J" } : Jvm.MethodName) prog_40_method_2_code (4 : Nat) (Option.some Jvm.ClassFile.FieldType.long)).before args0 about1 = true := code_word (m := ⟨20, 1⟩) (meth := k20m1) (c := k20c1) (by decide +kernel) rfl rfl rfl (by decide +kernel)
set_option maxRecDepth 65536 in
theorem w_c21 : (Jvm.Cond.code ({ cls := "com/example/debit/debit/metering/PackedLines", name := "unpack", desc := "(J)Lcom/example/debit/debit/csv/SourceLine;" } : Jvm.MethodName) prog_40_method_3_code (3 : Nat) (Option.some (Jvm.ClassFile.FieldType.object "com/example/debit/debit/csv/SourceLine"))).before args0 about1 = true := code_word (m := ⟨20, 2⟩) (meth := k20m2) (c := k20c2) (by decide +kernel) rfl rfl rfl (by decide +kernel)
set_option maxRecDepth 65536 in
theorem w_c22 : (Jvm.Cond.code ({ cls := "java/util/ArrayList", name := "get", desc := "(I)Ljava/lang/Object;" } : Jvm.MethodName) jdk_38_method_20_code (2 : Nat) (Option.some (Jvm.ClassFile.FieldType.object "java/lang/Object"))).before args0 about1 = true := code_word (m := ⟨11, 4⟩) (meth := k11m4) (c := k11c4) (by decide +kernel) rfl rfl rfl (by decide +kernel)
set_option maxRecDepth 65536 in
theorem w_c23 : (Jvm.Cond.code ({ cls := "java/util/Objects", name := "checkIndex", desc := "(II)I" } : Jvm.MethodName) jdk_31_method_17_code (2 : Nat) (Option.some Jvm.ClassFile.FieldType.int)).before args0 about1 = true := code_word (m := ⟨22, 2⟩) (meth := k22m2) (c := k22c2) (by decide +kernel) rfl rfl rfl (by decide +kernel)
set_option maxRecDepth 65536 in
theorem w_c24 : (Jvm.Cond.code ({ cls := "jdk/internal/util/Preconditions", name := "checkIndex", desc := "(IILjava/util/function/BiFunction;)I" } : Jvm.MethodName) jdk_41_method_11_code (3 : Nat) (Option.some Jvm.ClassFile.FieldType.int)).before args0 about1 = true := code_word (m := ⟨23, 1⟩) (meth := k23m1) (c := k23c1) (by decide +kernel) rfl rfl rfl (by decide +kernel)
set_option maxRecDepth 65536 in
theorem w_c25 : (Jvm.Cond.code ({ cls := "java/util/ArrayList", name := "elementData", desc := "(I)Ljava/lang/Object;" } : Jvm.MethodName) jdk_38_method_18_code (2 : Nat) (Option.some (Jvm.ClassFile.FieldType.object "java/lang/Object"))).before args0 about1 = true := code_word (m := ⟨11, 3⟩) (meth := k11m3) (c := k11c3) (by decide +kernel) rfl rfl rfl (by decide +kernel)
set_option maxRecDepth 65536 in
theorem w_c26 : (Jvm.Cond.code ({ cls := "com/example/debit/debit/csv/SourceLine", name := "<init>", desc := "(Ljava/lang/String;J)V" } : Jvm.MethodName) prog_21_method_1_code (4 : Nat) (Option.none : Option Jvm.ClassFile.FieldType)).before args0 about1 = true := code_word (m := ⟨21, 0⟩) (meth := k21m0) (c := k21c0) (by decide +kernel) rfl rfl rfl (by decide +kernel)
set_option maxRecDepth 65536 in
theorem w_c27 : (Jvm.Cond.code ({ cls := "java/util/Objects", name := "requireNonNull", desc := "(Ljava/lang/Object;Ljava/lang/String;)Ljava/lang/Object;" } : Jvm.MethodName) jdk_31_method_11_code (2 : Nat) (Option.some (Jvm.ClassFile.FieldType.object "java/lang/Object"))).before args0 about1 = true := code_word (m := ⟨22, 1⟩) (meth := k22m1) (c := k22c1) (by decide +kernel) rfl rfl rfl (by decide +kernel)
set_option maxRecDepth 65536 in
theorem w_c28 : (Jvm.Cond.code ({ cls := "com/example/debit/debit/csv/SourceLine", name := "file", desc := "()Ljava/lang/String;" } : Jvm.MethodName) prog_21_method_2_code (1 : Nat) (Option.some (Jvm.ClassFile.FieldType.object "java/lang/String"))).before args0 about1 = true := code_word (m := ⟨21, 1⟩) (meth := k21m1) (c := k21c1) (by decide +kernel) rfl rfl rfl (by decide +kernel)
set_option maxRecDepth 65536 in
theorem w_c29 : (Jvm.Cond.code ({ cls := "java/lang/String", name := "equals", desc := "(Ljava/lang/Object;)Z" } : Jvm.MethodName) jdk_42_method_66_code (3 : Nat) (Option.some Jvm.ClassFile.FieldType.boolean)).before args0 about1 = true := code_word (m := ⟨16, 2⟩) (meth := k16m2) (c := k16c2) (by decide +kernel) rfl rfl rfl (by decide +kernel)
set_option maxRecDepth 65536 in
theorem w_c30 : (Jvm.Cond.code ({ cls := "com/example/debit/debit/csv/SourceLine", name := "number", desc := "()J" } : Jvm.MethodName) prog_21_method_3_code (1 : Nat) (Option.some Jvm.ClassFile.FieldType.long)).before args0 about1 = true := code_word (m := ⟨21, 2⟩) (meth := k21m2) (c := k21c2) (by decide +kernel) rfl rfl rfl (by decide +kernel)
def codes1 : List Jvm.Cond := [Jvm.Cond.code x code maxLocals ret, Jvm.Cond.code ({ cls := "java/util/ArrayList", name := "<init>", desc := "()V" } : Jvm.MethodName) jdk_38_method_2_code (1 : Nat) (Option.none : Option Jvm.ClassFile.FieldType), Jvm.Cond.code ({ cls := "java/util/AbstractList", name := "<init>", desc := "()V" } : Jvm.MethodName) jdk_39_method_1_code (1 : Nat) (Option.none : Option Jvm.ClassFile.FieldType), Jvm.Cond.code ({ cls := "java/util/AbstractCollection", name := "<init>", desc := "()V" } : Jvm.MethodName) jdk_22_method_1_code (1 : Nat) (Option.none : Option Jvm.ClassFile.FieldType), Jvm.Cond.code ({ cls := "java/lang/Object", name := "<init>", desc := "()V" } : Jvm.MethodName) object_method_1_code (1 : Nat) (Option.none : Option Jvm.ClassFile.FieldType), Jvm.Cond.code ({ cls := "java/lang/String", name := "valueOf", desc := "(C)Ljava/lang/String;" } : Jvm.MethodName) jdk_42_method_139_code (1 : Nat) (Option.some (Jvm.ClassFile.FieldType.object "java/lang/String")), Jvm.Cond.code ({ cls := "java/lang/StringLatin1", name := "canEncode", desc := "(C)Z" } : Jvm.MethodName) jdk_43_method_3_code (1 : Nat) (Option.some Jvm.ClassFile.FieldType.boolean), Jvm.Cond.code ({ cls := "java/lang/StringLatin1", name := "toBytes", desc := "(C)[B" } : Jvm.MethodName) jdk_43_method_46_code (1 : Nat) (Option.some (Jvm.ClassFile.FieldType.array Jvm.ClassFile.FieldType.byte)), Jvm.Cond.code ({ cls := "java/lang/String", name := "<init>", desc := "([BB)V" } : Jvm.MethodName) jdk_42_method_151_code (3 : Nat) (Option.none : Option Jvm.ClassFile.FieldType), Jvm.Cond.code ({ cls := "java/util/ArrayList", name := "add", desc := "(Ljava/lang/Object;)Z" } : Jvm.MethodName) jdk_38_method_25_code (2 : Nat) (Option.some Jvm.ClassFile.FieldType.boolean), Jvm.Cond.code ({ cls := "java/util/ArrayList", name := "add", desc := "(Ljava/lang/Object;[Ljava/lang/Object;I)V" } : Jvm.MethodName) jdk_38_method_24_code (4 : Nat) (Option.none : Option Jvm.ClassFile.FieldType), Jvm.Cond.code ({ cls := "java/util/ArrayList", name := "grow", desc := "()[Ljava/lang/Object;" } : Jvm.MethodName) jdk_38_method_7_code (1 : Nat) (Option.some (Jvm.ClassFile.FieldType.array (Jvm.ClassFile.FieldType.object "java/lang/Object"))), Jvm.Cond.code ({ cls := "java/util/ArrayList", name := "grow", desc := "(I)[Ljava/lang/Object;" } : Jvm.MethodName) jdk_38_method_6_code (4 : Nat) (Option.some (Jvm.ClassFile.FieldType.array (Jvm.ClassFile.FieldType.object "java/lang/Object"))), Jvm.Cond.code ({ cls := "java/lang/Math", name := "max", desc := "(II)I" } : Jvm.MethodName) jdk_29_method_65_code (2 : Nat) (Option.some Jvm.ClassFile.FieldType.int), Jvm.Cond.code ({ cls := "java/lang/String", name := "<init>", desc := "([C)V" } : Jvm.MethodName) jdk_42_method_3_code (2 : Nat) (Option.none : Option Jvm.ClassFile.FieldType), Jvm.Cond.code ({ cls := "java/lang/String", name := "<init>", desc := "([CIILjava/lang/Void;)V" } : Jvm.MethodName) jdk_42_method_149_code (6 : Nat) (Option.none : Option Jvm.ClassFile.FieldType), Jvm.Cond.code ({ cls := "java/lang/StringUTF16", name := "compress", desc := "([CII)[B" } : Jvm.MethodName) jdk_52_method_16_code (6 : Nat) (Option.some (Jvm.ClassFile.FieldType.array Jvm.ClassFile.FieldType.byte)), Jvm.Cond.code ({ cls := "java/lang/StringUTF16", name := "compress", desc := "([CI[BII)I" } : Jvm.MethodName) jdk_52_method_21_code (7 : Nat) (Option.some Jvm.ClassFile.FieldType.int), Jvm.Cond.code ({ cls := "java/lang/StringUTF16", name := "coderFromArrayLen", desc := "([BI)B" } : Jvm.MethodName) jdk_52_method_15_code (2 : Nat) (Option.some Jvm.ClassFile.FieldType.byte), Jvm.Cond.code ({ cls := "com/example/debit/debit/metering/PackedLines", name := "<init>", desc := "(Ljava/util/List;)V" } : Jvm.MethodName) prog_40_method_1_code (2 : Nat) (Option.none : Option Jvm.ClassFile.FieldType), Jvm.Cond.code ({ cls := "com/example/debit/debit/metering/PackedLines", name := "pack", desc := "(IJ)J" } : Jvm.MethodName) prog_40_method_2_code (4 : Nat) (Option.some Jvm.ClassFile.FieldType.long), Jvm.Cond.code ({ cls := "com/example/debit/debit/metering/PackedLines", name := "unpack", desc := "(J)Lcom/example/debit/debit/csv/SourceLine;" } : Jvm.MethodName) prog_40_method_3_code (3 : Nat) (Option.some (Jvm.ClassFile.FieldType.object "com/example/debit/debit/csv/SourceLine")), Jvm.Cond.code ({ cls := "java/util/ArrayList", name := "get", desc := "(I)Ljava/lang/Object;" } : Jvm.MethodName) jdk_38_method_20_code (2 : Nat) (Option.some (Jvm.ClassFile.FieldType.object "java/lang/Object")), Jvm.Cond.code ({ cls := "java/util/Objects", name := "checkIndex", desc := "(II)I" } : Jvm.MethodName) jdk_31_method_17_code (2 : Nat) (Option.some Jvm.ClassFile.FieldType.int), Jvm.Cond.code ({ cls := "jdk/internal/util/Preconditions", name := "checkIndex", desc := "(IILjava/util/function/BiFunction;)I" } : Jvm.MethodName) jdk_41_method_11_code (3 : Nat) (Option.some Jvm.ClassFile.FieldType.int), Jvm.Cond.code ({ cls := "java/util/ArrayList", name := "elementData", desc := "(I)Ljava/lang/Object;" } : Jvm.MethodName) jdk_38_method_18_code (2 : Nat) (Option.some (Jvm.ClassFile.FieldType.object "java/lang/Object")), Jvm.Cond.code ({ cls := "com/example/debit/debit/csv/SourceLine", name := "<init>", desc := "(Ljava/lang/String;J)V" } : Jvm.MethodName) prog_21_method_1_code (4 : Nat) (Option.none : Option Jvm.ClassFile.FieldType), Jvm.Cond.code ({ cls := "java/util/Objects", name := "requireNonNull", desc := "(Ljava/lang/Object;Ljava/lang/String;)Ljava/lang/Object;" } : Jvm.MethodName) jdk_31_method_11_code (2 : Nat) (Option.some (Jvm.ClassFile.FieldType.object "java/lang/Object")), Jvm.Cond.code ({ cls := "com/example/debit/debit/csv/SourceLine", name := "file", desc := "()Ljava/lang/String;" } : Jvm.MethodName) prog_21_method_2_code (1 : Nat) (Option.some (Jvm.ClassFile.FieldType.object "java/lang/String")), Jvm.Cond.code ({ cls := "java/lang/String", name := "equals", desc := "(Ljava/lang/Object;)Z" } : Jvm.MethodName) jdk_42_method_66_code (3 : Nat) (Option.some Jvm.ClassFile.FieldType.boolean), Jvm.Cond.code ({ cls := "com/example/debit/debit/csv/SourceLine", name := "number", desc := "()J" } : Jvm.MethodName) prog_21_method_3_code (1 : Nat) (Option.some Jvm.ClassFile.FieldType.long)]
set_option maxRecDepth 65536 in
theorem codes_eq : words1.filter isCode = codes1 := rfl
theorem w_codes : ∀ c ∈ words1.filter isCode, c.before args0 about1 = true := by
  rw [codes_eq]
  intro c hc
  simp only [codes1, List.mem_cons, List.not_mem_nil, or_false] at hc
  rcases hc with rfl | rfl | rfl | rfl | rfl | rfl | rfl | rfl | rfl | rfl | rfl | rfl | rfl | rfl | rfl | rfl | rfl | rfl | rfl | rfl | rfl | rfl | rfl | rfl | rfl | rfl | rfl | rfl | rfl | rfl | rfl
  · exact w_c0
  · exact w_c1
  · exact w_c2
  · exact w_c3
  · exact w_c4
  · exact w_c5
  · exact w_c6
  · exact w_c7
  · exact w_c8
  · exact w_c9
  · exact w_c10
  · exact w_c11
  · exact w_c12
  · exact w_c13
  · exact w_c14
  · exact w_c15
  · exact w_c16
  · exact w_c17
  · exact w_c18
  · exact w_c19
  · exact w_c20
  · exact w_c21
  · exact w_c22
  · exact w_c23
  · exact w_c24
  · exact w_c25
  · exact w_c26
  · exact w_c27
  · exact w_c28
  · exact w_c29
  · exact w_c30
set_option maxRecDepth 65536 in
theorem w_t1 : (words1.take 24).all (fun c => isCode c || c.before args0 about1) = true := by decide +kernel
set_option maxRecDepth 65536 in
theorem w_t2 : ((words1.drop 24).take 24).all (fun c => isCode c || c.before args0 about1) = true := by decide +kernel
set_option maxRecDepth 65536 in
theorem w_t3 : (((words1.drop 24).drop 24).take 24).all (fun c => isCode c || c.before args0 about1) = true := by decide +kernel
set_option maxRecDepth 65536 in
theorem w_t4 : ((((words1.drop 24).drop 24).drop 24).take 24).all (fun c => isCode c || c.before args0 about1) = true := by decide +kernel
set_option maxRecDepth 65536 in
theorem w_t5 : (((((words1.drop 24).drop 24).drop 24).drop 24).take 24).all (fun c => isCode c || c.before args0 about1) = true := by decide +kernel
set_option maxRecDepth 65536 in
theorem w_t6 : ((((((words1.drop 24).drop 24).drop 24).drop 24).drop 24).take 24).all (fun c => isCode c || c.before args0 about1) = true := by decide +kernel
set_option maxRecDepth 65536 in
theorem w_t7 : (((((((words1.drop 24).drop 24).drop 24).drop 24).drop 24).drop 24).take 24).all (fun c => isCode c || c.before args0 about1) = true := by decide +kernel
set_option maxRecDepth 65536 in
theorem w_t8 : (((((((words1.drop 24).drop 24).drop 24).drop 24).drop 24).drop 24).drop 24).all (fun c => isCode c || c.before args0 about1) = true := by decide +kernel
theorem w_tables : (allAtoms (Jvm.Cond.code x code maxLocals ret :: tables_1)).before args0 about1 = true := by
  rw [allAtoms_all]
  show words1.all (fun c => c.before args0 about1) = true
  refine all_split ?_ w_codes
  rw [← List.take_append_drop 24 words1, List.all_append, w_t1, ← List.take_append_drop 24 (words1.drop 24), List.all_append, w_t2, ← List.take_append_drop 24 ((words1.drop 24).drop 24), List.all_append, w_t3, ← List.take_append_drop 24 (((words1.drop 24).drop 24).drop 24), List.all_append, w_t4, ← List.take_append_drop 24 ((((words1.drop 24).drop 24).drop 24).drop 24), List.all_append, w_t5, ← List.take_append_drop 24 (((((words1.drop 24).drop 24).drop 24).drop 24).drop 24), List.all_append, w_t6, ← List.take_append_drop 24 ((((((words1.drop 24).drop 24).drop 24).drop 24).drop 24).drop 24), List.all_append, w_t7, w_t8]
  rfl
set_option maxRecDepth 65536 in
theorem w_rest : rest_1_c.before args0 about1 = true := by decide +kernel
set_option maxRecDepth 65536 in
theorem w_case : (Jvm.Cond.and given_1 narrow_1).before args0 about1 = true := by decide +kernel
theorem w_applies : (headSpec (Jvm.Cond.code x code maxLocals ret :: tables_1) room_1).applies x e0.platform about1 = true :=
  (Spec.applies_iff w_frames).mpr ⟨w_running, w_runnable, w_alone, w_named, w_hears, w_ripe, w_room, w_tables⟩
theorem atStart : AtStart classFile x code maxLocals ret World_1 tables_1 room_1 Calls_1 rest_1 Pre_1 launch0 p0 e0 about1 theMethod args0 below0 :=
  ⟨lists_1, trivial, launch0.admits_env _ _ _, launch0.least_env, fairChoices_fair.cas, fairChoices_fair.clock, w_frames, w_args, w_heap, w_applies, trivial, w_rest, w_case⟩
end start1
theorem witness_1 : WitnessClaimed_1 := ⟨start1.p0, start1.e0, start1.about1, start1.theMethod, start1.args0, start1.below0, start1.atStart⟩
end Jvm.Pilot.@@N@@
