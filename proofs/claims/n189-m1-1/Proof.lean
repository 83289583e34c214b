import JvmDerived
import JvmDerived.Pilot.@@N@@Statement
import JvmDerived.Pilot.@@N@@Code
set_option linter.unusedVariables false
set_option linter.unusedSimpArgs false
namespace Jvm.RoadKit
open Sem ClassFile Op Lib Jvm.Stand Jvm.Free Jvm.LawKit
section OwnGo
variable {p : Program} {l : Launch} {e : Env} {R : Room} {s : State} {m : MethodId} {args : Array Value} {below : List Frame} {meth : Method} {c : Code} {T : State} {locs : List Loc} {cells slots : Nat} {Z : State} {a0 : Array Value} {h : Heap} {Q : Option Value → Heap → List Loc → Prop} {P : Option Value → State → Prop} {K N : Nat} {by_ : ByteArray} {pc pc' : Nat} {Ls : Array Slot} {rest : List Value}
/-- from S the run comes to its end, and P says what it leaves -/
def Go (p : Program) (e : Env) (below : List Frame) (P : Option Value → State → Prop) (S : State) : Prop :=
  ∃ U v, Steps p.tables e below S U ∧ U.status = .running ∧ Ended U below (.returned v) ∧ P v U
/-- an end within a frame: the narrow one, and the wide one (String constants may have been interned) -/
def Nr (s : State) (Q : Option Value → Heap → List Loc → Prop) (K N : Nat) (v : Option Value) (U : State) : Prop := ∃ L, Q v U.heap L ∧ FrameEnd s (.returned v) U L K N
def Wd (s : State) (Q : Option Value → Heap → List Loc → Prop) (K N : Nat) (v : Option Value) (U : State) : Prop := ∃ L, Q v U.heap L ∧ ReturnedEndW s (.returned v) U L K N
theorem Go.st {A B : State} (f : ∀ t, Steps p.tables e below A t → Steps p.tables e below B t) (k : Go p e below P A) : Go p e below P B := by
  obtain ⟨U, v, h1, h2⟩ := k
  exact ⟨U, v, f _ h1, h2⟩
theorem Go.via {A B : State} (f : Steps p.tables e below B A) (k : Go p e below P A) : Go p e below P B := by
  obtain ⟨U, v, h1, h2⟩ := k
  exact ⟨U, v, f.trans h1, h2⟩
/-- the contract of a body -/
abbrev Con (l : Launch) (Z : State) (y : MethodName) (bytes : ByteArray) (maxL : Nat) (ret : Option FieldType) (ws : List Jvm.Cond) (rm : Room) (as : Array Value) (h : Heap) (Q : Option Value → Heap → List Loc → Prop) : Prop :=
  MetFree l y (head1 (Jvm.Cond.code y bytes maxL ret :: ws) rm) (fun a U => a = as ∧ Z.Warmed39 U.vm ∧ U.heap = h) (fun _ _ _ _ _ => True) (fun _ U o U' => ∃ v L, o = .returned v ∧ Q v U'.heap L ∧ FrameEnd U o U' L rm.cells rm.slots)
theorem Con.of {y : MethodName} {bytes : ByteArray} {maxL : Nat} {ret : Option FieldType} {ws : List Jvm.Cond} {rm : Room} {as : Array Value} (hpn : plainFor y = true)
    (body : ∀ (p : Program) (e : Env) (s : State) (m : MethodId) (below : List Frame) (meth : Method) (c : Code) (s₁ : State), p.tables.exec = Jvm.exec → c.code = bytes → c.maxLocals = maxL → s.vm.findClass y.cls = some m.cls → meth.name = y.name → meth.sig.returnType = ret → meth.locks = false → Z.Warmed39 s.vm →
      Stand p l e rm s m as below meth c s₁ [] 0 0 → s₁.heap = h → Go p e below (Nr s Q rm.cells rm.slots) (s₁.setTop (entryFrame m as maxL))) : Con l Z y bytes maxL ret ws rm as h Q := by
  refine MetFree.of_bodySF hpn hisR ?_
  intro p e s m args below meth c s₁ Bd hml0 hP hK
  obtain ⟨rfl, hZ, hh⟩ := hP
  have hown := findClass_of_methodNamed Bd.named
  have hnm := (name_of_methodNamed Bd.named Bd.method).1
  have X0 := Stand.of_body Bd
  have e0 : s₁.heap = h := by rw [← hh, Bd.state]; rfl
  obtain ⟨U, v, h1, h2, h3, L, h4, h5⟩ := body p e s m below meth c s₁ Bd.exec Bd.bytes hml0 hown hnm Bd.returns Bd.notSynchronized hZ X0 e0
  exact ⟨U, _, h1, h2, h3, v, L, rfl, h4, h5⟩
theorem Go.cast {g g' : JFrame} (q : g = g') (k : Go p e below P (T.setTop g')) : Go p e below P (T.setTop g) := q ▸ k
/-- a body that only reads numbers: what it returns, and nothing moved -/
def PQ (w : Option Value) (h0 : Heap) (v : Option Value) (h : Heap) (L : List Loc) : Prop := v = w ∧ L = [] ∧ h = h0
theorem Go.end_ {w : Option Value} {A : State} (X : Stand p l e R s m args below meth c T locs cells slots) (hlk : meth.locks = false) (hr0 : meth.sig.returnType = none → w = none) (f : ∀ fs, (∀ (f : JFrame) (acts : List Action), f.method = m → f.locked = none → f.entered = [] → (doReturn e (T.setTop f) acts w).1 = T.setFrames fs) → Steps p.tables e below A (T.setFrames fs))
    (hc : cells ≤ K) (hn : slots ≤ N) (q : Q w T.heap locs) : Go p e below (Nr s Q K N) A := by
  obtain ⟨fs, hr, hrun, hended, hW, hsame⟩ := X.leave (v := w) hr0 hlk
  exact ⟨_, _, f fs hr, hrun, hended, locs, q, ⟨_, rfl⟩, hW, hsame.mono hc hn⟩
theorem Go.ret0 (X : Stand p l e R s m args below meth c T locs cells slots) (hx : p.tables.exec = Jvm.exec) (hby : c.code = by_) (hlk : meth.locks = false) (hret : meth.sig.returnType = none) (hd : decode by_ pc = .ok (.return_, 1)) (hc : cells ≤ K) (hn : slots ≤ N) (q : Q none T.heap locs) : Go p e below (Nr s Q K N) (T.setTop (mkF m pc Ls [])) :=
  Go.end_ X hlk (fun _ => rfl) (fun fs hr => X.returnOut hx hret (hb hby hd) hr) hc hn q
theorem Go.retV {w : Value} {t : FieldType} {i : Instr} (X : Stand p l e R s m args below meth c T locs cells slots) (hx : p.tables.exec = Jvm.exec) (hby : c.code = by_) (hlk : meth.locks = false) (hret : meth.sig.returnType = some t) (hnw : narrow t w = w)
    (hi : (i = .ireturn ∧ (t = .int ∨ t = .boolean ∨ t = .byte ∨ t = .char ∨ t = .short) ∧ ∃ z, w = .int z) ∨ (i = .lreturn ∧ t = .long ∧ ∃ z, w = .long z) ∨ (i = .dreturn ∧ t = .double ∧ ∃ z, w = .double z) ∨ (i = .freturn ∧ t = .float ∧ ∃ z, w = .float z) ∨ (i = .areturn ∧ t.isReference = true ∧ w.isRef = true))
    (hd : decode by_ pc = .ok (i, 1)) (hc : cells ≤ K) (hn : slots ≤ N) (q : Q (some w) T.heap locs) : Go p e below (Nr s Q K N) (T.setTop (mkF m pc Ls (w :: rest))) :=
  Go.end_ X hlk (fun h => by rw [hret] at h; cases h) (fun fs hr => retOut X hx hret hnw hi (hb hby hd) hr) hc hn q
theorem Go.retI {z : Int32} (X : Stand p l e R s m args below meth c T locs cells slots) (hx : p.tables.exec = Jvm.exec) (hby : c.code = by_) (hlk : meth.locks = false) (hret : meth.sig.returnType = some .int) (hd : decode by_ pc = .ok (.ireturn, 1)) (hc : cells ≤ K) (hn : slots ≤ N) (q : Q (some (.int z)) T.heap locs) : Go p e below (Nr s Q K N) (T.setTop (mkF m pc Ls (.int z :: rest))) :=
  Go.retV X hx hby hlk hret rfl (Or.inl ⟨rfl, Or.inl rfl, z, rfl⟩) hd hc hn q
theorem Go.retZ {z : Int32} {t : FieldType} (X : Stand p l e R s m args below meth c T locs cells slots) (hx : p.tables.exec = Jvm.exec) (hby : c.code = by_) (hlk : meth.locks = false) (hret : meth.sig.returnType = some t) (ht : t = .boolean ∨ t = .byte ∨ t = .char ∨ t = .short) (hd : decode by_ pc = .ok (.ireturn, 1)) (hc : cells ≤ K) (hn : slots ≤ N) (q : Q (some (.int (nar t z))) T.heap locs) : Go p e below (Nr s Q K N) (T.setTop (mkF m pc Ls (.int z :: rest))) :=
  Go.end_ X hlk (fun h => by rw [hret] at h; cases h) (fun fs hr => retN X hx hret ht (hb hby hd) hr) hc hn q
theorem Go.retJ {z : Int64} (X : Stand p l e R s m args below meth c T locs cells slots) (hx : p.tables.exec = Jvm.exec) (hby : c.code = by_) (hlk : meth.locks = false) (hret : meth.sig.returnType = some .long) (hd : decode by_ pc = .ok (.lreturn, 1)) (hc : cells ≤ K) (hn : slots ≤ N) (q : Q (some (.long z)) T.heap locs) : Go p e below (Nr s Q K N) (T.setTop (mkF m pc Ls (.long z :: rest))) :=
  Go.retV X hx hby hlk hret rfl (Or.inr (Or.inl ⟨rfl, rfl, z, rfl⟩)) hd hc hn q
theorem Go.retA {w : Value} {t : FieldType} (X : Stand p l e R s m args below meth c T locs cells slots) (hx : p.tables.exec = Jvm.exec) (hby : c.code = by_) (hlk : meth.locks = false) (hret : meth.sig.returnType = some t) (hnw : narrow t w = w) (ht : t.isReference = true) (hw : w.isRef = true) (hd : decode by_ pc = .ok (.areturn, 1)) (hc : cells ≤ K) (hn : slots ≤ N) (q : Q (some w) T.heap locs) : Go p e below (Nr s Q K N) (T.setTop (mkF m pc Ls (w :: rest))) :=
  Go.retV X hx hby hlk hret hnw (Or.inr (Or.inr (Or.inr (Or.inr ⟨rfl, ht, hw⟩)))) hd hc hn q
def icP : ClassFile.Cond → Int32 → Int32 → Prop
  | .eq, x, y => x = y
  | .ne, x, y => x ≠ y
  | .lt, x, y => x < y
  | .ge, x, y => y ≤ x
  | .gt, x, y => y < x
  | .le, x, y => x ≤ y
theorem icP_iff (cd : ClassFile.Cond) (x y : Int32) : if_icmp.holds cd x y = true ↔ icP cd x y := by cases cd <;> simp [if_icmp.holds, icP]
theorem icP_not {cd : ClassFile.Cond} {x y : Int32} (q : ¬ icP cd x y) : if_icmp.holds cd x y = false := by
  cases hq : if_icmp.holds cd x y
  · rfl
  · exact absurd ((icP_iff cd x y).mp hq) q

theorem Go.iadd {x y : Int32} (X : Stand p l e R s m args below meth c T locs cells slots) (hx : p.tables.exec = Jvm.exec) (hby : c.code = by_) (hd : decode by_ pc = .ok (.iadd, 1)) (hp : pc + 1 = pc') (k : Go p e below P (T.setTop (mkF m pc' Ls (.int (x + y) :: rest)))) : Go p e below P (T.setTop (mkF m pc Ls (.int y :: .int x :: rest))) := by
  subst hp; exact Go.st (fun t k => XS.iadd X.here hx rfl (hb hby hd) rfl k) k
theorem Go.isub {x y : Int32} (X : Stand p l e R s m args below meth c T locs cells slots) (hx : p.tables.exec = Jvm.exec) (hby : c.code = by_) (hd : decode by_ pc = .ok (.isub, 1)) (hp : pc + 1 = pc') (k : Go p e below P (T.setTop (mkF m pc' Ls (.int (x - y) :: rest)))) : Go p e below P (T.setTop (mkF m pc Ls (.int y :: .int x :: rest))) := by
  subst hp; exact Go.st (fun t k => XS.isub X.here hx rfl (hb hby hd) rfl k) k
theorem Go.imul {x y : Int32} (X : Stand p l e R s m args below meth c T locs cells slots) (hx : p.tables.exec = Jvm.exec) (hby : c.code = by_) (hd : decode by_ pc = .ok (.imul, 1)) (hp : pc + 1 = pc') (k : Go p e below P (T.setTop (mkF m pc' Ls (.int (x * y) :: rest)))) : Go p e below P (T.setTop (mkF m pc Ls (.int y :: .int x :: rest))) := by
  subst hp; exact Go.st (fun t k => XS.imul X.here hx rfl (hb hby hd) rfl k) k
theorem Go.iand {x y : Int32} (X : Stand p l e R s m args below meth c T locs cells slots) (hx : p.tables.exec = Jvm.exec) (hby : c.code = by_) (hd : decode by_ pc = .ok (.iand, 1)) (hp : pc + 1 = pc') (k : Go p e below P (T.setTop (mkF m pc' Ls (.int (x &&& y) :: rest)))) : Go p e below P (T.setTop (mkF m pc Ls (.int y :: .int x :: rest))) := by
  subst hp; exact Go.st (fun t k => XS.iand X.here hx rfl (hb hby hd) rfl k) k
theorem Go.ior {x y : Int32} (X : Stand p l e R s m args below meth c T locs cells slots) (hx : p.tables.exec = Jvm.exec) (hby : c.code = by_) (hd : decode by_ pc = .ok (.ior, 1)) (hp : pc + 1 = pc') (k : Go p e below P (T.setTop (mkF m pc' Ls (.int (x ||| y) :: rest)))) : Go p e below P (T.setTop (mkF m pc Ls (.int y :: .int x :: rest))) := by
  subst hp; exact Go.st (fun t k => XS.ior X.here hx rfl (hb hby hd) rfl k) k
theorem Go.ixor {x y : Int32} (X : Stand p l e R s m args below meth c T locs cells slots) (hx : p.tables.exec = Jvm.exec) (hby : c.code = by_) (hd : decode by_ pc = .ok (.ixor, 1)) (hp : pc + 1 = pc') (k : Go p e below P (T.setTop (mkF m pc' Ls (.int (x ^^^ y) :: rest)))) : Go p e below P (T.setTop (mkF m pc Ls (.int y :: .int x :: rest))) := by
  subst hp; exact Go.st (fun t k => XS.ixor X.here hx rfl (hb hby hd) rfl k) k
theorem Go.ladd {x y : Int64} (X : Stand p l e R s m args below meth c T locs cells slots) (hx : p.tables.exec = Jvm.exec) (hby : c.code = by_) (hd : decode by_ pc = .ok (.ladd, 1)) (hp : pc + 1 = pc') (k : Go p e below P (T.setTop (mkF m pc' Ls (.long (x + y) :: rest)))) : Go p e below P (T.setTop (mkF m pc Ls (.long y :: .long x :: rest))) := by
  subst hp; exact Go.st (fun t k => XS.ladd X.here hx rfl (hb hby hd) rfl k) k
theorem Go.lsub {x y : Int64} (X : Stand p l e R s m args below meth c T locs cells slots) (hx : p.tables.exec = Jvm.exec) (hby : c.code = by_) (hd : decode by_ pc = .ok (.lsub, 1)) (hp : pc + 1 = pc') (k : Go p e below P (T.setTop (mkF m pc' Ls (.long (x - y) :: rest)))) : Go p e below P (T.setTop (mkF m pc Ls (.long y :: .long x :: rest))) := by
  subst hp; exact Go.st (fun t k => XS.lsub X.here hx rfl (hb hby hd) rfl k) k
theorem Go.lmul {x y : Int64} (X : Stand p l e R s m args below meth c T locs cells slots) (hx : p.tables.exec = Jvm.exec) (hby : c.code = by_) (hd : decode by_ pc = .ok (.lmul, 1)) (hp : pc + 1 = pc') (k : Go p e below P (T.setTop (mkF m pc' Ls (.long (x * y) :: rest)))) : Go p e below P (T.setTop (mkF m pc Ls (.long y :: .long x :: rest))) := by
  subst hp; exact Go.st (fun t k => XS.lmul X.here hx rfl (hb hby hd) rfl k) k
theorem Go.land {x y : Int64} (X : Stand p l e R s m args below meth c T locs cells slots) (hx : p.tables.exec = Jvm.exec) (hby : c.code = by_) (hd : decode by_ pc = .ok (.land, 1)) (hp : pc + 1 = pc') (k : Go p e below P (T.setTop (mkF m pc' Ls (.long (x &&& y) :: rest)))) : Go p e below P (T.setTop (mkF m pc Ls (.long y :: .long x :: rest))) := by
  subst hp; exact Go.st (fun t k => XS.land X.here hx rfl (hb hby hd) rfl k) k
theorem Go.lor {x y : Int64} (X : Stand p l e R s m args below meth c T locs cells slots) (hx : p.tables.exec = Jvm.exec) (hby : c.code = by_) (hd : decode by_ pc = .ok (.lor, 1)) (hp : pc + 1 = pc') (k : Go p e below P (T.setTop (mkF m pc' Ls (.long (x ||| y) :: rest)))) : Go p e below P (T.setTop (mkF m pc Ls (.long y :: .long x :: rest))) := by
  subst hp; exact Go.st (fun t k => XS.lor X.here hx rfl (hb hby hd) rfl k) k
theorem Go.lxor {x y : Int64} (X : Stand p l e R s m args below meth c T locs cells slots) (hx : p.tables.exec = Jvm.exec) (hby : c.code = by_) (hd : decode by_ pc = .ok (.lxor, 1)) (hp : pc + 1 = pc') (k : Go p e below P (T.setTop (mkF m pc' Ls (.long (x ^^^ y) :: rest)))) : Go p e below P (T.setTop (mkF m pc Ls (.long y :: .long x :: rest))) := by
  subst hp; exact Go.st (fun t k => XS.lxor X.here hx rfl (hb hby hd) rfl k) k
theorem Go.ishl {x y : Int32} (X : Stand p l e R s m args below meth c T locs cells slots) (hx : p.tables.exec = Jvm.exec) (hby : c.code = by_) (hd : decode by_ pc = .ok (.ishl, 1)) (hp : pc + 1 = pc') (k : Go p e below P (T.setTop (mkF m pc' Ls (.int (x <<< (y &&& 31)) :: rest)))) : Go p e below P (T.setTop (mkF m pc Ls (.int y :: .int x :: rest))) := by
  subst hp; exact Go.st (fun t k => XS.ishl X.here hx rfl (hb hby hd) rfl k) k
theorem Go.ishr {x y : Int32} (X : Stand p l e R s m args below meth c T locs cells slots) (hx : p.tables.exec = Jvm.exec) (hby : c.code = by_) (hd : decode by_ pc = .ok (.ishr, 1)) (hp : pc + 1 = pc') (k : Go p e below P (T.setTop (mkF m pc' Ls (.int (x >>> (y &&& 31)) :: rest)))) : Go p e below P (T.setTop (mkF m pc Ls (.int y :: .int x :: rest))) := by
  subst hp; exact Go.st (fun t k => XS.ishr X.here hx rfl (hb hby hd) rfl k) k
theorem Go.iushr {x y : Int32} (X : Stand p l e R s m args below meth c T locs cells slots) (hx : p.tables.exec = Jvm.exec) (hby : c.code = by_) (hd : decode by_ pc = .ok (.iushr, 1)) (hp : pc + 1 = pc') (k : Go p e below P (T.setTop (mkF m pc' Ls (.int ((x.toUInt32 >>> (y &&& 31).toUInt32).toInt32) :: rest)))) : Go p e below P (T.setTop (mkF m pc Ls (.int y :: .int x :: rest))) := by
  subst hp; exact Go.st (fun t k => XS.iushr X.here hx rfl (hb hby hd) rfl k) k
theorem Go.lshl {x : Int64} {y : Int32} (X : Stand p l e R s m args below meth c T locs cells slots) (hx : p.tables.exec = Jvm.exec) (hby : c.code = by_) (hd : decode by_ pc = .ok (.lshl, 1)) (hp : pc + 1 = pc') (k : Go p e below P (T.setTop (mkF m pc' Ls (.long (x <<< (y &&& 0x3f).toInt64) :: rest)))) : Go p e below P (T.setTop (mkF m pc Ls (.int y :: .long x :: rest))) := by
  subst hp; exact Go.st (fun t k => XS.lshl X.here hx rfl (hb hby hd) rfl k) k
theorem Go.lshr {x : Int64} {y : Int32} (X : Stand p l e R s m args below meth c T locs cells slots) (hx : p.tables.exec = Jvm.exec) (hby : c.code = by_) (hd : decode by_ pc = .ok (.lshr, 1)) (hp : pc + 1 = pc') (k : Go p e below P (T.setTop (mkF m pc' Ls (.long (x >>> (y &&& 0x3f).toInt64) :: rest)))) : Go p e below P (T.setTop (mkF m pc Ls (.int y :: .long x :: rest))) := by
  subst hp; exact Go.st (fun t k => XS.lshr X.here hx rfl (hb hby hd) rfl k) k
theorem Go.lushr {x : Int64} {y : Int32} (X : Stand p l e R s m args below meth c T locs cells slots) (hx : p.tables.exec = Jvm.exec) (hby : c.code = by_) (hd : decode by_ pc = .ok (.lushr, 1)) (hp : pc + 1 = pc') (k : Go p e below P (T.setTop (mkF m pc' Ls (.long ((x.toUInt64 >>> (y &&& 0x3f).toInt64.toUInt64).toInt64) :: rest)))) : Go p e below P (T.setTop (mkF m pc Ls (.int y :: .long x :: rest))) := by
  subst hp; exact Go.st (fun t k => XS.lushr X.here hx rfl (hb hby hd) rfl k) k
theorem Go.ineg {x : Int32} (X : Stand p l e R s m args below meth c T locs cells slots) (hx : p.tables.exec = Jvm.exec) (hby : c.code = by_) (hd : decode by_ pc = .ok (.ineg, 1)) (hp : pc + 1 = pc') (k : Go p e below P (T.setTop (mkF m pc' Ls (.int (-x) :: rest)))) : Go p e below P (T.setTop (mkF m pc Ls (.int x :: rest))) := by
  subst hp; exact Go.st (fun t k => XS.ineg X.here hx rfl (hb hby hd) rfl k) k
theorem Go.lneg {x : Int64} (X : Stand p l e R s m args below meth c T locs cells slots) (hx : p.tables.exec = Jvm.exec) (hby : c.code = by_) (hd : decode by_ pc = .ok (.lneg, 1)) (hp : pc + 1 = pc') (k : Go p e below P (T.setTop (mkF m pc' Ls (.long (-x) :: rest)))) : Go p e below P (T.setTop (mkF m pc Ls (.long x :: rest))) := by
  subst hp; exact Go.st (fun t k => XS.lneg X.here hx rfl (hb hby hd) rfl k) k
theorem Go.i2b {x : Int32} (X : Stand p l e R s m args below meth c T locs cells slots) (hx : p.tables.exec = Jvm.exec) (hby : c.code = by_) (hd : decode by_ pc = .ok (.i2b, 1)) (hp : pc + 1 = pc') (k : Go p e below P (T.setTop (mkF m pc' Ls (.int (x.toInt8.toInt32) :: rest)))) : Go p e below P (T.setTop (mkF m pc Ls (.int x :: rest))) := by
  subst hp; exact Go.st (fun t k => XS.i2b X.here hx rfl (hb hby hd) rfl k) k
theorem Go.i2c {x : Int32} (X : Stand p l e R s m args below meth c T locs cells slots) (hx : p.tables.exec = Jvm.exec) (hby : c.code = by_) (hd : decode by_ pc = .ok (.i2c, 1)) (hp : pc + 1 = pc') (k : Go p e below P (T.setTop (mkF m pc' Ls (.int (x.toUInt32.toUInt16.toUInt32.toInt32) :: rest)))) : Go p e below P (T.setTop (mkF m pc Ls (.int x :: rest))) := by
  subst hp; exact Go.st (fun t k => XS.i2c X.here hx rfl (hb hby hd) rfl k) k
theorem Go.i2s {x : Int32} (X : Stand p l e R s m args below meth c T locs cells slots) (hx : p.tables.exec = Jvm.exec) (hby : c.code = by_) (hd : decode by_ pc = .ok (.i2s, 1)) (hp : pc + 1 = pc') (k : Go p e below P (T.setTop (mkF m pc' Ls (.int (x.toInt16.toInt32) :: rest)))) : Go p e below P (T.setTop (mkF m pc Ls (.int x :: rest))) := by
  subst hp; exact Go.st (fun t k => XS.i2s X.here hx rfl (hb hby hd) rfl k) k
theorem Go.i2l {x : Int32} (X : Stand p l e R s m args below meth c T locs cells slots) (hx : p.tables.exec = Jvm.exec) (hby : c.code = by_) (hd : decode by_ pc = .ok (.i2l, 1)) (hp : pc + 1 = pc') (k : Go p e below P (T.setTop (mkF m pc' Ls (.long (x.toInt64) :: rest)))) : Go p e below P (T.setTop (mkF m pc Ls (.int x :: rest))) := by
  subst hp; exact Go.st (fun t k => XS.i2l X.here hx rfl (hb hby hd) rfl k) k
theorem Go.l2i {x : Int64} (X : Stand p l e R s m args below meth c T locs cells slots) (hx : p.tables.exec = Jvm.exec) (hby : c.code = by_) (hd : decode by_ pc = .ok (.l2i, 1)) (hp : pc + 1 = pc') (k : Go p e below P (T.setTop (mkF m pc' Ls (.int (x.toInt32) :: rest)))) : Go p e below P (T.setTop (mkF m pc Ls (.long x :: rest))) := by
  subst hp; exact Go.st (fun t k => XS.l2i X.here hx rfl (hb hby hd) rfl k) k
theorem Go.lcmp {x y : Int64} (X : Stand p l e R s m args below meth c T locs cells slots) (hx : p.tables.exec = Jvm.exec) (hby : c.code = by_) (hd : decode by_ pc = .ok (.lcmp, 1)) (hp : pc + 1 = pc') (k : Go p e below P (T.setTop (mkF m pc' Ls (.int (lcmpW x y) :: rest)))) : Go p e below P (T.setTop (mkF m pc Ls (.long y :: .long x :: rest))) := by
  subst hp; exact Go.st (fun t k => XS.lcmp X.here hx rfl (hb hby hd) rfl k) k
theorem Go.idiv {x y : Int32} (X : Stand p l e R s m args below meth c T locs cells slots) (hx : p.tables.exec = Jvm.exec) (hby : c.code = by_) (hd : decode by_ pc = .ok (.idiv, 1)) (hp : pc + 1 = pc') (hy : y ≠ 0) (k : Go p e below P (T.setTop (mkF m pc' Ls (.int (x / y) :: rest)))) : Go p e below P (T.setTop (mkF m pc Ls (.int y :: .int x :: rest))) := by
  subst hp; exact Go.st (fun t k => XS.idiv X.here hx rfl (hb hby hd) rfl hy k) k
theorem Go.irem {x y : Int32} (X : Stand p l e R s m args below meth c T locs cells slots) (hx : p.tables.exec = Jvm.exec) (hby : c.code = by_) (hd : decode by_ pc = .ok (.irem, 1)) (hp : pc + 1 = pc') (hy : y ≠ 0) (k : Go p e below P (T.setTop (mkF m pc' Ls (.int (x % y) :: rest)))) : Go p e below P (T.setTop (mkF m pc Ls (.int y :: .int x :: rest))) := by
  subst hp; exact Go.st (fun t k => iremM X hx rfl (hb hby hd) rfl hy k) k
theorem Go.ldiv {x y : Int64} (X : Stand p l e R s m args below meth c T locs cells slots) (hx : p.tables.exec = Jvm.exec) (hby : c.code = by_) (hd : decode by_ pc = .ok (.ldiv, 1)) (hp : pc + 1 = pc') (hy : y ≠ 0) (k : Go p e below P (T.setTop (mkF m pc' Ls (.long (x / y) :: rest)))) : Go p e below P (T.setTop (mkF m pc Ls (.long y :: .long x :: rest))) := by
  subst hp; exact Go.st (fun t k => XS.ldiv X.here hx rfl (hb hby hd) rfl hy k) k
theorem Go.lrem {x y : Int64} (X : Stand p l e R s m args below meth c T locs cells slots) (hx : p.tables.exec = Jvm.exec) (hby : c.code = by_) (hd : decode by_ pc = .ok (.lrem, 1)) (hp : pc + 1 = pc') (hy : y ≠ 0) (k : Go p e below P (T.setTop (mkF m pc' Ls (.long (x - (x / y) * y) :: rest)))) : Go p e below P (T.setTop (mkF m pc Ls (.long y :: .long x :: rest))) := by
  subst hp; exact Go.st (fun t k => XS.lrem X.here hx rfl (hb hby hd) rfl hy k) k
theorem Go.dup {w : Value} (X : Stand p l e R s m args below meth c T locs cells slots) (hx : p.tables.exec = Jvm.exec) (hby : c.code = by_) (hd : decode by_ pc = .ok (.dup, 1)) (hp : pc + 1 = pc') (hc : w.category = 1) (k : Go p e below P (T.setTop (mkF m pc' Ls (w :: w :: rest)))) : Go p e below P (T.setTop (mkF m pc Ls (w :: rest))) := by
  subst hp; exact Go.st (fun t k => XS.dup X.here hx rfl (hb hby hd) rfl hc k) k
theorem Go.pop {w : Value} (X : Stand p l e R s m args below meth c T locs cells slots) (hx : p.tables.exec = Jvm.exec) (hby : c.code = by_) (hd : decode by_ pc = .ok (.pop, 1)) (hp : pc + 1 = pc') (hc : w.category = 1) (k : Go p e below P (T.setTop (mkF m pc' Ls rest))) : Go p e below P (T.setTop (mkF m pc Ls (w :: rest))) := by
  subst hp; exact Go.st (fun t k => XS.pop X.here hx rfl (hb hby hd) rfl hc k) k
theorem Go.dupX1 {w u : Value} (X : Stand p l e R s m args below meth c T locs cells slots) (hx : p.tables.exec = Jvm.exec) (hby : c.code = by_) (hd : decode by_ pc = .ok (.dup_x1, 1)) (hp : pc + 1 = pc') (hc : w.category = 1) (hc2 : u.category = 1) (k : Go p e below P (T.setTop (mkF m pc' Ls (w :: u :: w :: rest)))) : Go p e below P (T.setTop (mkF m pc Ls (w :: u :: rest))) := by
  subst hp; exact Go.st (fun t k => XS.dupX1 X.here hx rfl (hb hby hd) rfl hc hc2 k) k
theorem Go.dup2 {w u : Value} (X : Stand p l e R s m args below meth c T locs cells slots) (hx : p.tables.exec = Jvm.exec) (hby : c.code = by_) (hd : decode by_ pc = .ok (.dup2, 1)) (hp : pc + 1 = pc') (hc : w.category = 1) (hc2 : u.category = 1) (k : Go p e below P (T.setTop (mkF m pc' Ls (w :: u :: w :: u :: rest)))) : Go p e below P (T.setTop (mkF m pc Ls (w :: u :: rest))) := by
  subst hp; exact Go.st (fun t k => XT.dup2 X.here hx rfl (hb hby hd) rfl hc hc2 k) k
theorem Go.iconst {i : Int} {v : Int32} (X : Stand p l e R s m args below meth c T locs cells slots) (hx : p.tables.exec = Jvm.exec) (hby : c.code = by_) (hd : decode by_ pc = .ok (.iconst i, 1)) (hp : pc + 1 = pc') (hv : Int32.ofInt i = v) (k : Go p e below P (T.setTop (mkF m pc' Ls (.int v :: rest)))) : Go p e below P (T.setTop (mkF m pc Ls rest)) := by
  subst hp; exact Go.st (fun t k => XS.iconst X.here hx rfl (hb hby hd) (by rw [hv]; exact k)) k
theorem Go.bipush {i : Int} {v : Int32} (X : Stand p l e R s m args below meth c T locs cells slots) (hx : p.tables.exec = Jvm.exec) (hby : c.code = by_) (hd : decode by_ pc = .ok (.bipush i, 2)) (hp : pc + 2 = pc') (hv : (Int8.ofInt i).toInt32 = v) (k : Go p e below P (T.setTop (mkF m pc' Ls (.int v :: rest)))) : Go p e below P (T.setTop (mkF m pc Ls rest)) := by
  subst hp; exact Go.st (fun t k => XS.bipush X.here hx rfl (hb hby hd) (by rw [hv]; exact k)) k
theorem Go.sipush {i : Int} {v : Int32} (X : Stand p l e R s m args below meth c T locs cells slots) (hx : p.tables.exec = Jvm.exec) (hby : c.code = by_) (hd : decode by_ pc = .ok (.sipush i, 3)) (hp : pc + 3 = pc') (hv : (Int16.ofInt i).toInt32 = v) (k : Go p e below P (T.setTop (mkF m pc' Ls (.int v :: rest)))) : Go p e below P (T.setTop (mkF m pc Ls rest)) := by
  subst hp; exact Go.st (fun t k => XS.sipush X.here hx rfl (hb hby hd) (by rw [hv]; exact k)) k
theorem Go.lconst {i : Fin 2} {v : Int64} (X : Stand p l e R s m args below meth c T locs cells slots) (hx : p.tables.exec = Jvm.exec) (hby : c.code = by_) (hd : decode by_ pc = .ok (.lconst i, 1)) (hp : pc + 1 = pc') (hv : Int64.ofNat i = v) (k : Go p e below P (T.setTop (mkF m pc' Ls (.long v :: rest)))) : Go p e below P (T.setTop (mkF m pc Ls rest)) := by
  subst hp; exact Go.st (fun t k => XS.lconst X.here hx rfl (hb hby hd) (by rw [hv]; exact k)) k
theorem Go.aconstNull  (X : Stand p l e R s m args below meth c T locs cells slots) (hx : p.tables.exec = Jvm.exec) (hby : c.code = by_) (hd : decode by_ pc = .ok (.aconst_null, 1)) (hp : pc + 1 = pc') (k : Go p e below P (T.setTop (mkF m pc' Ls (.null :: rest)))) : Go p e below P (T.setTop (mkF m pc Ls rest)) := by
  subst hp; exact Go.st (fun t k => XS.aconstNull X.here hx rfl (hb hby hd) k) k
theorem Go.iloadN {i : Fin 4} {v : Int32} (X : Stand p l e R s m args below meth c T locs cells slots) (hx : p.tables.exec = Jvm.exec) (hby : c.code = by_) (hd : decode by_ pc = .ok (.iload_n i, 1)) (hp : pc + 1 = pc') (hl : Ls[i.val]? = some (.val (.int v))) (k : Go p e below P (T.setTop (mkF m pc' Ls (.int v :: rest)))) : Go p e below P (T.setTop (mkF m pc Ls rest)) := by
  subst hp; exact Go.st (fun t k => XS.iloadN X.here hx rfl (hb hby hd) hl k) k
theorem Go.iload {i : Nat} {v : Int32} (X : Stand p l e R s m args below meth c T locs cells slots) (hx : p.tables.exec = Jvm.exec) (hby : c.code = by_) (hd : decode by_ pc = .ok (.iload i, 2)) (hp : pc + 2 = pc') (hl : Ls[i]? = some (.val (.int v))) (k : Go p e below P (T.setTop (mkF m pc' Ls (.int v :: rest)))) : Go p e below P (T.setTop (mkF m pc Ls rest)) := by
  subst hp; exact Go.st (fun t k => XS.iload X.here hx rfl (hb hby hd) hl k) k
theorem Go.lloadN {i : Fin 4} {v : Int64} (X : Stand p l e R s m args below meth c T locs cells slots) (hx : p.tables.exec = Jvm.exec) (hby : c.code = by_) (hd : decode by_ pc = .ok (.lload_n i, 1)) (hp : pc + 1 = pc') (hl : Ls[i.val]? = some (.val (.long v))) (k : Go p e below P (T.setTop (mkF m pc' Ls (.long v :: rest)))) : Go p e below P (T.setTop (mkF m pc Ls rest)) := by
  subst hp; exact Go.st (fun t k => XS.lloadN X.here hx rfl (hb hby hd) hl k) k
theorem Go.lload {i : Nat} {v : Int64} (X : Stand p l e R s m args below meth c T locs cells slots) (hx : p.tables.exec = Jvm.exec) (hby : c.code = by_) (hd : decode by_ pc = .ok (.lload i, 2)) (hp : pc + 2 = pc') (hl : Ls[i]? = some (.val (.long v))) (k : Go p e below P (T.setTop (mkF m pc' Ls (.long v :: rest)))) : Go p e below P (T.setTop (mkF m pc Ls rest)) := by
  subst hp; exact Go.st (fun t k => XS.lload X.here hx rfl (hb hby hd) hl k) k
theorem Go.aloadN {i : Fin 4} {v : Value} (X : Stand p l e R s m args below meth c T locs cells slots) (hx : p.tables.exec = Jvm.exec) (hby : c.code = by_) (hd : decode by_ pc = .ok (.aload_n i, 1)) (hp : pc + 1 = pc') (hl : Ls[i.val]? = some (.val v)) (hv : v.isRef = true) (k : Go p e below P (T.setTop (mkF m pc' Ls (v :: rest)))) : Go p e below P (T.setTop (mkF m pc Ls rest)) := by
  subst hp; exact Go.st (fun t k => XS.aloadN X.here hx rfl (hb hby hd) hl hv k) k
theorem Go.aload {i : Nat} {v : Value} (X : Stand p l e R s m args below meth c T locs cells slots) (hx : p.tables.exec = Jvm.exec) (hby : c.code = by_) (hd : decode by_ pc = .ok (.aload i, 2)) (hp : pc + 2 = pc') (hl : Ls[i]? = some (.val v)) (hv : v.isRef = true) (k : Go p e below P (T.setTop (mkF m pc' Ls (v :: rest)))) : Go p e below P (T.setTop (mkF m pc Ls rest)) := by
  subst hp; exact Go.st (fun t k => XS.aload X.here hx rfl (hb hby hd) hl hv k) k
theorem Go.ldcI {own : String} {index : Nat} {v : Int32} (X : Stand p l e R s m args below meth c T locs cells slots) (hx : p.tables.exec = Jvm.exec) (hby : c.code = by_) (hd : decode by_ pc = .ok (.ldc index, 2)) (hp : pc + 2 = pc') (hown : s.vm.findClass own = some m.cls) (hk : (Jvm.Cond.constant own index v).before args s = true) (k : Go p e below P (T.setTop (mkF m pc' Ls (.int v :: rest)))) : Go p e below P (T.setTop (mkF m pc Ls rest)) := by
  subst hp; exact Go.st (fun t k => X.ldcI hx hown hk rfl (hb hby hd) k) k
theorem Go.ldcWI {own : String} {index : Nat} {v : Int32} (X : Stand p l e R s m args below meth c T locs cells slots) (hx : p.tables.exec = Jvm.exec) (hby : c.code = by_) (hd : decode by_ pc = .ok (.ldc_w index, 3)) (hp : pc + 3 = pc') (hown : s.vm.findClass own = some m.cls) (hk : (Jvm.Cond.constant own index v).before args s = true) (k : Go p e below P (T.setTop (mkF m pc' Ls (.int v :: rest)))) : Go p e below P (T.setTop (mkF m pc Ls rest)) := by
  subst hp; exact Go.st (fun t k => X.ldcWI hx hown hk rfl (hb hby hd) k) k
theorem Go.ldc2J {own : String} {index : Nat} {v : Int64} (X : Stand p l e R s m args below meth c T locs cells slots) (hx : p.tables.exec = Jvm.exec) (hby : c.code = by_) (hd : decode by_ pc = .ok (.ldc2_w index, 3)) (hp : pc + 3 = pc') (hown : s.vm.findClass own = some m.cls) (hk : (Jvm.Cond.constantLong own index v).before args s = true) (k : Go p e below P (T.setTop (mkF m pc' Ls (.long v :: rest)))) : Go p e below P (T.setTop (mkF m pc Ls rest)) := by
  subst hp; exact Go.st (fun t k => X.ldc2J hx hown hk rfl (hb hby hd) k) k
theorem Go.istoreN {i : Fin 4} {v : Int32} {Ls' : Array Slot} (X : Stand p l e R s m args below meth c T locs cells slots) (hx : p.tables.exec = Jvm.exec) (hby : c.code = by_) (hd : decode by_ pc = .ok (.istore_n i, 1)) (hp : pc + 1 = pc') (hl : storeLocals Ls i.val (.int v) = some Ls') (k : Go p e below P (T.setTop (mkF m pc' Ls' rest))) : Go p e below P (T.setTop (mkF m pc Ls (.int v :: rest))) := by
  subst hp; exact Go.st (fun t k => XS.istoreN X.here hx rfl (hb hby hd) rfl hl k) k
theorem Go.istore {i : Nat} {v : Int32} {Ls' : Array Slot} (X : Stand p l e R s m args below meth c T locs cells slots) (hx : p.tables.exec = Jvm.exec) (hby : c.code = by_) (hd : decode by_ pc = .ok (.istore i, 2)) (hp : pc + 2 = pc') (hl : storeLocals Ls i (.int v) = some Ls') (k : Go p e below P (T.setTop (mkF m pc' Ls' rest))) : Go p e below P (T.setTop (mkF m pc Ls (.int v :: rest))) := by
  subst hp; exact Go.st (fun t k => XS.istore X.here hx rfl (hb hby hd) rfl hl k) k
theorem Go.lstoreN {i : Fin 4} {v : Int64} {Ls' : Array Slot} (X : Stand p l e R s m args below meth c T locs cells slots) (hx : p.tables.exec = Jvm.exec) (hby : c.code = by_) (hd : decode by_ pc = .ok (.lstore_n i, 1)) (hp : pc + 1 = pc') (hl : storeLocals Ls i.val (.long v) = some Ls') (k : Go p e below P (T.setTop (mkF m pc' Ls' rest))) : Go p e below P (T.setTop (mkF m pc Ls (.long v :: rest))) := by
  subst hp; exact Go.st (fun t k => XS.lstoreN X.here hx rfl (hb hby hd) rfl hl k) k
theorem Go.lstore {i : Nat} {v : Int64} {Ls' : Array Slot} (X : Stand p l e R s m args below meth c T locs cells slots) (hx : p.tables.exec = Jvm.exec) (hby : c.code = by_) (hd : decode by_ pc = .ok (.lstore i, 2)) (hp : pc + 2 = pc') (hl : storeLocals Ls i (.long v) = some Ls') (k : Go p e below P (T.setTop (mkF m pc' Ls' rest))) : Go p e below P (T.setTop (mkF m pc Ls (.long v :: rest))) := by
  subst hp; exact Go.st (fun t k => XS.lstore X.here hx rfl (hb hby hd) rfl hl k) k
theorem Go.astoreN {i : Fin 4} {v : Value} {Ls' : Array Slot} (X : Stand p l e R s m args below meth c T locs cells slots) (hx : p.tables.exec = Jvm.exec) (hby : c.code = by_) (hd : decode by_ pc = .ok (.astore_n i, 1)) (hp : pc + 1 = pc') (hv : v.isRef = true) (hl : storeLocals Ls i.val v = some Ls') (k : Go p e below P (T.setTop (mkF m pc' Ls' rest))) : Go p e below P (T.setTop (mkF m pc Ls (v :: rest))) := by
  subst hp; exact Go.st (fun t k => XS.astoreN X.here hx rfl (hb hby hd) rfl hv hl k) k
theorem Go.astore {i : Nat} {v : Value} {Ls' : Array Slot} (X : Stand p l e R s m args below meth c T locs cells slots) (hx : p.tables.exec = Jvm.exec) (hby : c.code = by_) (hd : decode by_ pc = .ok (.astore i, 2)) (hp : pc + 2 = pc') (hv : v.isRef = true) (hl : storeLocals Ls i v = some Ls') (k : Go p e below P (T.setTop (mkF m pc' Ls' rest))) : Go p e below P (T.setTop (mkF m pc Ls (v :: rest))) := by
  subst hp; exact Go.st (fun t k => XS.astore X.here hx rfl (hb hby hd) rfl hv hl k) k
theorem Go.iinc {i : Nat} {cst : Int} {v w : Int32} {Ls' : Array Slot} (X : Stand p l e R s m args below meth c T locs cells slots) (hx : p.tables.exec = Jvm.exec) (hby : c.code = by_) (hd : decode by_ pc = .ok (.iinc i cst, 3)) (hp : pc + 3 = pc') (hl : Ls[i]? = some (.val (.int v))) (hv : v + Int32.ofInt cst = w) (hl' : storeLocals Ls i (.int w) = some Ls') (k : Go p e below P (T.setTop (mkF m pc' Ls' rest))) : Go p e below P (T.setTop (mkF m pc Ls rest)) := by
  subst hp hv; exact Go.st (fun t k => XS.iinc X.here hx rfl (hb hby hd) hl hl' k) k
theorem Go.goto {o : Int} (X : Stand p l e R s m args below meth c T locs cells slots) (hx : p.tables.exec = Jvm.exec) (hby : c.code = by_) (hd : decode by_ pc = .ok (.goto o, 3)) (ho : 0 ≤ (pc : Int) + o) (hp : ((pc : Int) + o).toNat = pc') (k : Go p e below P (T.setTop (mkF m pc' Ls rest))) : Go p e below P (T.setTop (mkF m pc Ls rest)) :=
  Go.st (fun t k => XS.goto X.here hx rfl rfl (hb hby hd) ho hp k) k
theorem Go.icmpY {cd : ClassFile.Cond} {o : Int} {x y : Int32} (X : Stand p l e R s m args below meth c T locs cells slots) (hx : p.tables.exec = Jvm.exec) (hby : c.code = by_) (hd : decode by_ pc = .ok (.if_icmp cd o, 3)) (ho : 0 ≤ (pc : Int) + o) (hp : ((pc : Int) + o).toNat = pc') (q : icP cd x y) (k : Go p e below P (T.setTop (mkF m pc' Ls rest))) : Go p e below P (T.setTop (mkF m pc Ls (.int y :: .int x :: rest))) :=
  Go.st (fun t k => XS.icmpYes X.here hx rfl rfl (hb hby hd) rfl ((icP_iff cd x y).mpr q) ho hp k) k
theorem Go.icmpN {cd : ClassFile.Cond} {o : Int} {x y : Int32} (X : Stand p l e R s m args below meth c T locs cells slots) (hx : p.tables.exec = Jvm.exec) (hby : c.code = by_) (hd : decode by_ pc = .ok (.if_icmp cd o, 3)) (hp : pc + 3 = pc') (q : ¬ icP cd x y) (k : Go p e below P (T.setTop (mkF m pc' Ls rest))) : Go p e below P (T.setTop (mkF m pc Ls (.int y :: .int x :: rest))) := by
  subst hp; exact Go.st (fun t k => XS.icmpNo X.here hx rfl (hb hby hd) rfl (icP_not q) k) k
theorem Go.icmp {cd : ClassFile.Cond} {o : Int} {x y : Int32} {pn : Nat} (X : Stand p l e R s m args below meth c T locs cells slots) (hx : p.tables.exec = Jvm.exec) (hby : c.code = by_) (hd : decode by_ pc = .ok (.if_icmp cd o, 3)) (ho : 0 ≤ (pc : Int) + o) (hp : ((pc : Int) + o).toNat = pc') (hp2 : pc + 3 = pn) (k : icP cd x y → Go p e below P (T.setTop (mkF m pc' Ls rest))) (k2 : ¬ icP cd x y → Go p e below P (T.setTop (mkF m pn Ls rest))) : Go p e below P (T.setTop (mkF m pc Ls (.int y :: .int x :: rest))) := by
  by_cases q : icP cd x y
  · exact Go.icmpY X hx hby hd ho hp q (k q)
  · exact Go.icmpN X hx hby hd hp2 q (k2 q)
theorem Go.ifY {cd : ClassFile.Cond} {o : Int} {x : Int32} (X : Stand p l e R s m args below meth c T locs cells slots) (hx : p.tables.exec = Jvm.exec) (hby : c.code = by_) (hd : decode by_ pc = .ok (.ifCond cd o, 3)) (ho : 0 ≤ (pc : Int) + o) (hp : ((pc : Int) + o).toNat = pc') (q : icP cd x 0) (k : Go p e below P (T.setTop (mkF m pc' Ls rest))) : Go p e below P (T.setTop (mkF m pc Ls (.int x :: rest))) :=
  Go.st (fun t k => XS.ifYes X.here hx rfl rfl (hb hby hd) rfl (by rw [if0]; exact (icP_iff cd x 0).mpr q) ho hp k) k
theorem Go.ifN {cd : ClassFile.Cond} {o : Int} {x : Int32} (X : Stand p l e R s m args below meth c T locs cells slots) (hx : p.tables.exec = Jvm.exec) (hby : c.code = by_) (hd : decode by_ pc = .ok (.ifCond cd o, 3)) (hp : pc + 3 = pc') (q : ¬ icP cd x 0) (k : Go p e below P (T.setTop (mkF m pc' Ls rest))) : Go p e below P (T.setTop (mkF m pc Ls (.int x :: rest))) := by
  subst hp; exact Go.st (fun t k => XS.ifNo X.here hx rfl (hb hby hd) rfl (by rw [if0]; exact icP_not q) k) k
theorem Go.if_ {cd : ClassFile.Cond} {o : Int} {x : Int32} {pn : Nat} (X : Stand p l e R s m args below meth c T locs cells slots) (hx : p.tables.exec = Jvm.exec) (hby : c.code = by_) (hd : decode by_ pc = .ok (.ifCond cd o, 3)) (ho : 0 ≤ (pc : Int) + o) (hp : ((pc : Int) + o).toNat = pc') (hp2 : pc + 3 = pn) (k : icP cd x 0 → Go p e below P (T.setTop (mkF m pc' Ls rest))) (k2 : ¬ icP cd x 0 → Go p e below P (T.setTop (mkF m pn Ls rest))) : Go p e below P (T.setTop (mkF m pc Ls (.int x :: rest))) := by
  by_cases q : icP cd x 0
  · exact Go.ifY X hx hby hd ho hp q (k q)
  · exact Go.ifN X hx hby hd hp2 q (k2 q)
theorem Go.ifnullY {o : Int} (X : Stand p l e R s m args below meth c T locs cells slots) (hx : p.tables.exec = Jvm.exec) (hby : c.code = by_) (hd : decode by_ pc = .ok (.ifnull o, 3)) (ho : 0 ≤ (pc : Int) + o) (hp : ((pc : Int) + o).toNat = pc') (k : Go p e below P (T.setTop (mkF m pc' Ls rest))) : Go p e below P (T.setTop (mkF m pc Ls (.null :: rest))) :=
  Go.st (fun t k => XS.ifnullYes X.here hx rfl rfl (hb hby hd) rfl ho hp k) k
theorem Go.ifnullN {o : Int} {b : Addr} (X : Stand p l e R s m args below meth c T locs cells slots) (hx : p.tables.exec = Jvm.exec) (hby : c.code = by_) (hd : decode by_ pc = .ok (.ifnull o, 3)) (hp : pc + 3 = pc') (k : Go p e below P (T.setTop (mkF m pc' Ls rest))) : Go p e below P (T.setTop (mkF m pc Ls (.ref b :: rest))) := by
  subst hp; exact Go.st (fun t k => XS.ifnullNo X.here hx rfl (hb hby hd) rfl k) k
theorem Go.ifnonnullY {o : Int} {b : Addr} (X : Stand p l e R s m args below meth c T locs cells slots) (hx : p.tables.exec = Jvm.exec) (hby : c.code = by_) (hd : decode by_ pc = .ok (.ifnonnull o, 3)) (ho : 0 ≤ (pc : Int) + o) (hp : ((pc : Int) + o).toNat = pc') (k : Go p e below P (T.setTop (mkF m pc' Ls rest))) : Go p e below P (T.setTop (mkF m pc Ls (.ref b :: rest))) :=
  Go.st (fun t k => XS.ifnonnullYes X.here hx rfl rfl (hb hby hd) rfl ho hp k) k
theorem Go.ifnonnullN {o : Int} (X : Stand p l e R s m args below meth c T locs cells slots) (hx : p.tables.exec = Jvm.exec) (hby : c.code = by_) (hd : decode by_ pc = .ok (.ifnonnull o, 3)) (hp : pc + 3 = pc') (k : Go p e below P (T.setTop (mkF m pc' Ls rest))) : Go p e below P (T.setTop (mkF m pc Ls (.null :: rest))) := by
  subst hp; exact Go.st (fun t k => XS.ifnonnullNo X.here hx rfl (hb hby hd) rfl k) k
theorem Go.acmpEq {o : Int} {b : Addr} (X : Stand p l e R s m args below meth c T locs cells slots) (hx : p.tables.exec = Jvm.exec) (hby : c.code = by_) (hd : decode by_ pc = .ok (.if_acmp .eq o, 3)) (ho : 0 ≤ (pc : Int) + o) (hp : ((pc : Int) + o).toNat = pc') (k : Go p e below P (T.setTop (mkF m pc' Ls rest))) : Go p e below P (T.setTop (mkF m pc Ls (.ref b :: .ref b :: rest))) :=
  Go.st (fun t k => acmp X hx rfl (x := .ref b) (y := .ref b) rfl rfl rfl (hb hby hd) rfl (same := true) (by simp) ho (hp.symm.trans (if_pos rfl).symm) k) k
theorem Go.callS {own : String} {index : Nat} {y : MethodName} {bytes : ByteArray} {maxL : Nat} {ret : Option FieldType} {rm : Room} {W : Nat} {as : Array Value} {Qc : Option Value → Heap → List Loc → Prop} {argsL st : List Value} {ps : List FieldType} {rt : Option FieldType} (X : Stand p l e R s m args below meth c T locs cells slots) (hx : p.tables.exec = Jvm.exec) (hby : c.code = by_) (hZ : Z.Warmed39 s.vm) (hown : s.vm.findClass own = some m.cls)
    (w1 : (Jvm.Cond.methodLink own index y).before a0 Z = true) (w2 : (Jvm.Cond.static y).before a0 Z = true) (w3 : (Jvm.Cond.initialized y.cls).before a0 Z = true) (w4 : (Jvm.Cond.code y bytes maxL ret).before a0 Z = true) (hy : y.cls ≠ "java/lang/invoke/MethodHandle" ∧ y.cls ≠ "java/lang/invoke/VarHandle")
    (hM : Con l Z y bytes maxL ret [] rm as h Qc) (eT : T.heap = h) (hf : rm.frames + 1 ≤ R.frames) (hl : W + (maxL + 11) + rm.locals ≤ R.locals) (hsize : Ls.size = c.maxLocals) (hpd : parseMethodDescriptor y.desc = some ⟨ps, rt⟩) (hlen : argsL.length = ps.length) (hst : st = argsL.reverse ++ rest) (has : argsL.toArray = as) (hW : 0 + (rest.map fun v => v.category).sum ≤ W)
    (hd : decode by_ pc = .ok (.invokestatic index, 3)) (hp : pc + 3 = pc') (hc : cells + rm.cells ≤ R.cells) (hs : slots + rm.slots ≤ R.slots)
    (k : ∀ (v : Option Value) (T' : State) (L : List Loc), Stand p l e R s m args below meth c T' (locs ++ L) (cells + rm.cells) (slots + rm.slots) → Qc v T'.heap L → Go p e below P (T'.setTop (mkF m pc' Ls (v.toList ++ rest)))) : Go p e below P (T.setTop (mkF m pc Ls st)) := by
  subst hp
  obtain ⟨v, _, ⟨T3, L3, k3, n3⟩, -, X3, ⟨Lc3, hQ3, l3, y3, z3⟩, st3⟩ := Jvm.LawKit.callS X hx (y := y) hown (mvT hZ w1) (mvT hZ w2) (mvT hZ w3) (mvT hZ w4) hy (backOf (W := W) hM hZ w4 w3 hf hl) (g := mkF m pc Ls st) rfl hsize (argsL := argsL) (rest := rest) (lenOf hpd hlen) hst hW (hb hby hd) (fun _ _ => ⟨has, eT, hc, hs⟩)
  dsimp only [Pt.U, Pt.locs, Pt.cells, Pt.slots] at X3 l3 y3 z3 st3 hQ3
  subst l3 y3 z3
  exact Go.st st3 (k v T3 Lc3 X3 hQ3)
theorem Go.callI {own : String} {index : Nat} {y : MethodName} {bytes : ByteArray} {maxL : Nat} {rm : Room} {W : Nat} {as : Array Value} {Qc : Option Value → Heap → List Loc → Prop} {argsL st : List Value} {ps : List FieldType} {rt : Option FieldType} {a : Addr} (X : Stand p l e R s m args below meth c T locs cells slots) (hx : p.tables.exec = Jvm.exec) (hby : c.code = by_) (hy1 : y.name = "<init>") (hZ : Z.Warmed39 s.vm) (hown : s.vm.findClass own = some m.cls)
    (w1 : (Jvm.Cond.methodLink own index y).before a0 Z = true) (w2 : (Jvm.Cond.instanceMethod y).before a0 Z = true) (w3 : (Jvm.Cond.initialized y.cls).before a0 Z = true) (w4 : (Jvm.Cond.code y bytes maxL none).before a0 Z = true) (hy : y.cls ≠ "java/lang/invoke/MethodHandle" ∧ y.cls ≠ "java/lang/invoke/VarHandle")
    (hM : Con l Z y bytes maxL none [] rm as h Qc) (eT : T.heap = h) (hf : rm.frames + 1 ≤ R.frames) (hl : W + (maxL + 11) + rm.locals ≤ R.locals) (hsize : Ls.size = c.maxLocals) (hpd : parseMethodDescriptor y.desc = some ⟨ps, rt⟩) (hlen : argsL.length = ps.length) (hst : st = argsL.reverse ++ .ref a :: rest) (has : (.ref a :: argsL).toArray = as) (hW : 0 + (rest.map fun v => v.category).sum ≤ W)
    (hd : decode by_ pc = .ok (.invokespecial index, 3)) (hp : pc + 3 = pc') (hc : cells + rm.cells ≤ R.cells) (hs : slots + rm.slots ≤ R.slots)
    (k : ∀ (v : Option Value) (T' : State) (L : List Loc), Stand p l e R s m args below meth c T' (locs ++ L) (cells + rm.cells) (slots + rm.slots) → Qc v T'.heap L → Go p e below P (T'.setTop (mkF m pc' Ls (v.toList ++ rest)))) : Go p e below P (T.setTop (mkF m pc Ls st)) := by
  subst hp
  obtain ⟨v, _, ⟨T3, L3, k3, n3⟩, -, X3, ⟨Lc3, hQ3, l3, y3, z3⟩, st3⟩ := X.specialBack hx (y := y) hy1 hown (mvT hZ w1) (mvT hZ w2) (mvT hZ w4) hy (backOf (W := W) hM hZ w4 w3 hf hl) (g := mkF m pc Ls st) rfl hsize (Steps.refl _) (a := a) (argsL := argsL) (rest := rest) (lenOf hpd hlen) hst hW (hb hby hd) (fun _ _ => ⟨has, eT, hc, hs⟩)
  dsimp only [Pt.U, Pt.locs, Pt.cells, Pt.slots] at X3 l3 y3 z3 st3 hQ3
  subst l3 y3 z3
  exact Go.via st3 (k v T3 Lc3 X3 hQ3)
theorem Go.callV {own C : String} {index : Nat} {y z : MethodName} {bytes : ByteArray} {maxL : Nat} {ret : Option FieldType} {rm : Room} {W : Nat} {as : Array Value} {Qc : Option Value → Heap → List Loc → Prop} {argsL st : List Value} {ps : List FieldType} {rt : Option FieldType} {a : Addr} (X : Stand p l e R s m args below meth c T locs cells slots) (hx : p.tables.exec = Jvm.exec) (hby : c.code = by_) (hZ : Z.Warmed39 s.vm) (hown : s.vm.findClass own = some m.cls)
    (w1 : (Jvm.Cond.methodLink own index y).before a0 Z = true) (w2 : (Jvm.Cond.declares y).before a0 Z = true) (hnf : NotFace s y) (w5 : (Jvm.Cond.selects C y z).before a0 Z = true) (w6 : (Jvm.Cond.instanceMethod z).before a0 Z = true) (w3 : (Jvm.Cond.initialized z.cls).before a0 Z = true) (w4 : (Jvm.Cond.code z bytes maxL ret).before a0 Z = true) (hy : y.cls ≠ "java/lang/invoke/MethodHandle" ∧ y.cls ≠ "java/lang/invoke/VarHandle")
    (hM : Con l Z z bytes maxL ret [] rm as h Qc) (eT : T.heap = h) (hE : Exa Z h a C) (hf : rm.frames + 1 ≤ R.frames) (hl : W + (maxL + 11) + rm.locals ≤ R.locals) (hsize : Ls.size = c.maxLocals) (hpd : parseMethodDescriptor y.desc = some ⟨ps, rt⟩) (hlen : argsL.length = ps.length) (hst : st = argsL.reverse ++ .ref a :: rest) (has : (.ref a :: argsL).toArray = as) (hW : 0 + (rest.map fun v => v.category).sum ≤ W)
    (hd : decode by_ pc = .ok (.invokevirtual index, 3)) (hp : pc + 3 = pc') (hc : cells + rm.cells ≤ R.cells) (hs : slots + rm.slots ≤ R.slots)
    (k : ∀ (v : Option Value) (T' : State) (L : List Loc), Stand p l e R s m args below meth c T' (locs ++ L) (cells + rm.cells) (slots + rm.slots) → Qc v T'.heap L → Go p e below P (T'.setTop (mkF m pc' Ls (v.toList ++ rest)))) : Go p e below P (T.setTop (mkF m pc Ls st)) := by
  subst hp
  obtain ⟨cq, kq, q4a, q4b, q4c⟩ := isOf (T := T) hZ eT hE
  obtain ⟨v, _, ⟨T3, L3, k3, n3⟩, -, X3, ⟨Lc3, hQ3, l3, y3, z3⟩, st3⟩ := X.virtualBack hx (y := y) (z := z) hown (mvT hZ w1) (mvT hZ w2) hnf (mvT hZ w5) (mvT hZ w6) hy (backOf (W := W) hM hZ w4 w3 hf hl) q4a q4c (g := mkF m pc Ls st) rfl hsize (Steps.refl _) (argsL := argsL) (rest := rest) (lenOf hpd hlen) hst hW (hb hby hd) (fun _ _ => ⟨has, eT, hc, hs⟩)
  dsimp only [Pt.U, Pt.locs, Pt.cells, Pt.slots] at X3 l3 y3 z3 st3 hQ3
  subst l3 y3 z3
  exact Go.via st3 (k v T3 Lc3 X3 hQ3)

theorem Go.nmI {x : Int32} (k : ∀ v : Int32, v = x → Go p e below P (T.setTop (mkF m pc Ls (.int v :: rest)))) : Go p e below P (T.setTop (mkF m pc Ls (.int x :: rest))) := k _ rfl
theorem Go.nmJ {x : Int64} (k : ∀ v : Int64, v = x → Go p e below P (T.setTop (mkF m pc Ls (.long v :: rest)))) : Go p e below P (T.setTop (mkF m pc Ls (.long x :: rest))) := k _ rfl
theorem Go.cut {α : Type} {F : α → State} {x : α} {S : State} (k : Go p e below P (F x)) (k2 : (∀ b, b = x → Go p e below P (F b)) → Go p e below P S) : Go p e below P S := k2 (fun b hb => hb ▸ k)
theorem Go.cutAll {α : Type} {F : α → State} {S : State} (k : ∀ b, Go p e below P (F b)) (k2 : (∀ b, Go p e below P (F b)) → Go p e below P S) : Go p e below P S := k2 k
theorem Go.loop {α : Type} {F : α → State} {I : α → Prop} {μ : α → Nat} (step : ∀ x, I x → (∀ y, I y → μ y < μ x → Go p e below P (F y)) → Go p e below P (F x)) (x : α) (hx : I x) : Go p e below P (F x) := by
  have key : ∀ (n : Nat) (x : α), μ x < n → I x → Go p e below P (F x) := by
    intro n
    induction n with
    | zero => intro x hn; exact absurd hn (Nat.not_lt_zero _)
    | succ n ih => intro x hn hi; exact step x hi (fun y hy hlt => ih y (by omega) hy)
  exact key _ x (Nat.lt_succ_self _) hx
/-- what a law leaves: true, and nothing that stood is written -/
def LQ (n0 : Nat) (v : Option Value) (h : Heap) (L : List Loc) : Prop := v = some (.int 1) ∧ Fr n0 L
end OwnGo
section OwnHeap
variable {p : Program} {l : Launch} {e : Env} {R : Room} {s : State} {m : MethodId} {args : Array Value} {below : List Frame} {meth : Method} {c : Code} {T : State} {locs : List Loc} {cells slots : Nat} {Z : State} {a0 : Array Value} {h h' : Heap} {Q : Option Value → Heap → List Loc → Prop} {P : Option Value → State → Prop} {K N : Nat} {by_ : ByteArray} {pc pc' : Nat} {Ls : Array Slot} {rest : List Value} {a b : Addr} {ty : FieldType} {z i : Int} {f g : Int → Value} {sl : Nat} {v : Value} {ws : List Addr}
/-- an array: its length z, what place i holds -/
def Ar (Z : State) (h : Heap) (a : Addr) (ty : FieldType) (z : Int) (f : Int → Value) : Prop := ∃ cl : Cell, Arr Z h a cl ty ∧ (cl.slots.size : Int) = z ∧ z < 2147483648 ∧ ∀ i : Nat, (i : Int) < z → cl.slots[i]? = some (f i)
theorem Ar.ext (F : Ar Z h a ty z f) (E : Ext h h') : Ar Z h' a ty z f := by obtain ⟨cl, A, r⟩ := F; exact ⟨cl, A.ext E, r⟩
theorem Ar.other (F : Ar Z h a ty z f) (W : Wr h h' b sl v) (q : a ≠ b) : Ar Z h' a ty z f := by obtain ⟨cl, A, r⟩ := F; exact ⟨cl, A.other W q, r⟩
theorem Ar.keep (F : Ar Z h a ty z f) (K : Keep h h' ws) (q : a ∉ ws) : Ar Z h' a ty z f := by obtain ⟨cl, A, r⟩ := F; exact ⟨cl, ⟨K.2.1 a cl A.1 q, A.2⟩, r⟩
theorem Ar.lt (F : Ar Z h a ty z f) : a < h.size := by obtain ⟨cl, A, -⟩ := F; exact A.lt
theorem Ar.congr (F : Ar Z h a ty z f) (q : ∀ i, 0 ≤ i → i < z → f i = g i) : Ar Z h a ty z g := by
  obtain ⟨cl, A, r1, r2, r3⟩ := F
  exact ⟨cl, A, r1, r2, fun i hi => by rw [r3 i hi, q i (by omega) hi]⟩
theorem Ar.bound (F : Ar Z h a ty z f) : 0 ≤ z ∧ z < 2147483648 := by obtain ⟨cl, A, r1, r2, -⟩ := F; omega
theorem Ar.set (F : Ar Z h a ty z f) (W : Wr h h' a i.toNat v) (hi : 0 ≤ i) : Ar Z h' a ty z (fun q => if q = i then v else f q) := by
  obtain ⟨cl, A, r1, r2, r3⟩ := F
  obtain ⟨cl2, w1, w2, w3, w4⟩ := W
  cases w1.symm.trans A.1
  refine ⟨_, A.same ⟨cl, A.1, w2, w3, w4⟩, by rw [sz_set]; exact r1, r2, fun k hk => ?_⟩
  by_cases e : (k : Int) = i
  · have e' : k = i.toNat := by omega
    subst e'
    simp only [Cell.setSlot, if_pos e]
    rw [Array.getElem?_setIfInBounds_self_of_lt w3]
  · show _ = some (if (k : Int) = i then v else f k)
    rw [if_neg e]
    simp only [Cell.setSlot]
    rw [Array.getElem?_setIfInBounds_ne (by omega)]
    exact r3 k hk
theorem Ar.new {cA : ClassId} {n : Int32} (A : Arr Z h a (newA cA ty n) ty) (q : n.toInt = z) (q0 : 0 ≤ z) : Ar Z h a ty z (fun _ => defaultValue ty) := by
  have hs : ((newA cA ty n).slots.size : Int) = z := by rw [sz_new]; simp only [Int32.toNatClampNeg]; omega
  refine ⟨_, A, hs, by have := n.toInt_lt; omega, fun i hi => ?_⟩
  have hlt : i < n.toNatClampNeg := by rw [sz_new] at hs; omega
  simp [newA, Array.getElem?_replicate, hlt]
theorem in_of {cl : Cell} {j : Int32} (r1 : (cl.slots.size : Int) = z) (hj : j.toInt = i) (h0 : 0 ≤ i) (h1 : i < z) : ¬ (j < 0 ∨ cl.slots.size ≤ j.toNatClampNeg) ∧ j.toNatClampNeg = i.toNat := by
  have e : j.toNatClampNeg = i.toNat := by simp only [Int32.toNatClampNeg, hj]
  refine ⟨fun q => ?_, e⟩
  rcases q with q | q
  · rw [Int32.lt_iff_toInt_lt, hj, show (0 : Int32).toInt = 0 from by decide] at q; omega
  · rw [e] at q; omega
theorem Go.alen {zv : Int32} (X : Stand p l e R s m args below meth c T locs cells slots) (hx : p.tables.exec = Jvm.exec) (hby : c.code = by_) (hZ : Z.Warmed39 s.vm) (eT : T.heap = h) (A : Ar Z h a ty z f) (hd : decode by_ pc = .ok (.arraylength, 1)) (hp : pc + 1 = pc') (hz : zv.toInt = z) (k : Go p e below P (T.setTop (mkF m pc' Ls (.int zv :: rest)))) : Go p e below P (T.setTop (mkF m pc Ls (.ref a :: rest))) := by
  subst hp
  obtain ⟨cl, A, r1, r2, -⟩ := A
  have e1 : cl.slots.size.toInt32 = zv := Int32.toInt_inj.mp (by rw [len_toInt (by omega), hz]; exact r1)
  exact Go.st (fun t k => X.arraylength hx (cell := cl) (by rw [eT]; exact A.1) (State.isArrayOf_alike hZ.alike A.2.1) (g := mkF m pc Ls (.ref a :: rest)) rfl rfl (hb hby hd) _ (by rw [e1]; exact k)) k
theorem Go.iaload {j : Int32} (X : Stand p l e R s m args below meth c T locs cells slots) (hx : p.tables.exec = Jvm.exec) (hby : c.code = by_) (hZ : Z.Warmed39 s.vm) (eT : T.heap = h) (A : Ar Z h a .int z f) (hd : decode by_ pc = .ok (.iaload, 1)) (hp : pc + 1 = pc') (hj : j.toInt = i) (h0 : 0 ≤ i) (h1 : i < z) (hv : f i = v) (k : Go p e below P (T.setTop (mkF m pc' Ls (v :: rest)))) : Go p e below P (T.setTop (mkF m pc Ls (.int j :: .ref a :: rest))) := by
  subst hp hv
  obtain ⟨cl, A, r1, r2, r3⟩ := A
  obtain ⟨q1, q2⟩ := in_of r1 hj h0 h1
  exact Go.st (fun t k => X.iaload hx (j := j) (v := f i) (by rw [eT]; exact A.1) (State.isArrayOf_alike hZ.alike A.2.1) A.2.2 q1 (by rw [q2, r3 _ (by omega)]; congr 2; omega) (g := mkF m pc Ls (.int j :: .ref a :: rest)) rfl rfl (hb hby hd) _ k) k
theorem Go.caload {j : Int32} (X : Stand p l e R s m args below meth c T locs cells slots) (hx : p.tables.exec = Jvm.exec) (hby : c.code = by_) (hZ : Z.Warmed39 s.vm) (eT : T.heap = h) (A : Ar Z h a .char z f) (hd : decode by_ pc = .ok (.caload, 1)) (hp : pc + 1 = pc') (hj : j.toInt = i) (h0 : 0 ≤ i) (h1 : i < z) (hv : f i = v) (k : Go p e below P (T.setTop (mkF m pc' Ls (v :: rest)))) : Go p e below P (T.setTop (mkF m pc Ls (.int j :: .ref a :: rest))) := by
  subst hp hv
  obtain ⟨cl, A, r1, r2, r3⟩ := A
  obtain ⟨q1, q2⟩ := in_of r1 hj h0 h1
  exact Go.st (fun t k => X.caload hx (j := j) (v := f i) (by rw [eT]; exact A.1) (State.isArrayOf_alike hZ.alike A.2.1) A.2.2 q1 (by rw [q2, r3 _ (by omega)]; congr 2; omega) (g := mkF m pc Ls (.int j :: .ref a :: rest)) rfl rfl (hb hby hd) _ k) k
theorem Go.baload {j : Int32} (X : Stand p l e R s m args below meth c T locs cells slots) (hx : p.tables.exec = Jvm.exec) (hby : c.code = by_) (hZ : Z.Warmed39 s.vm) (eT : T.heap = h) (A : Ar Z h a .byte z f) (hd : decode by_ pc = .ok (.baload, 1)) (hp : pc + 1 = pc') (hj : j.toInt = i) (h0 : 0 ≤ i) (h1 : i < z) (hv : f i = v) (k : Go p e below P (T.setTop (mkF m pc' Ls (v :: rest)))) : Go p e below P (T.setTop (mkF m pc Ls (.int j :: .ref a :: rest))) := by
  subst hp hv
  obtain ⟨cl, A, r1, r2, r3⟩ := A
  obtain ⟨q1, q2⟩ := in_of r1 hj h0 h1
  exact Go.st (fun t k => X.baloadBytes hx (j := j) (v := f i) (by rw [eT]; exact A.1) (State.isArrayOf_alike hZ.alike A.2.1) A.2.2 q1 (by rw [q2, r3 _ (by omega)]; congr 2; omega) (g := mkF m pc Ls (.int j :: .ref a :: rest)) rfl rfl (hb hby hd) _ k) k
theorem Go.laload {j : Int32} (X : Stand p l e R s m args below meth c T locs cells slots) (hx : p.tables.exec = Jvm.exec) (hby : c.code = by_) (hZ : Z.Warmed39 s.vm) (eT : T.heap = h) (A : Ar Z h a .long z f) (hd : decode by_ pc = .ok (.laload, 1)) (hp : pc + 1 = pc') (hj : j.toInt = i) (h0 : 0 ≤ i) (h1 : i < z) (hv : f i = v) (k : Go p e below P (T.setTop (mkF m pc' Ls (v :: rest)))) : Go p e below P (T.setTop (mkF m pc Ls (.int j :: .ref a :: rest))) := by
  subst hp hv
  obtain ⟨cl, A, r1, r2, r3⟩ := A
  obtain ⟨q1, q2⟩ := in_of r1 hj h0 h1
  exact Go.st (fun t k => X.laload hx (j := j) (v := f i) (by rw [eT]; exact A.1) (State.isArrayOf_alike hZ.alike A.2.1) A.2.2 q1 (by rw [q2, r3 _ (by omega)]; congr 2; omega) (g := mkF m pc Ls (.int j :: .ref a :: rest)) rfl rfl (hb hby hd) _ k) k
theorem Go.saload {j : Int32} (X : Stand p l e R s m args below meth c T locs cells slots) (hx : p.tables.exec = Jvm.exec) (hby : c.code = by_) (hZ : Z.Warmed39 s.vm) (eT : T.heap = h) (A : Ar Z h a .short z f) (hd : decode by_ pc = .ok (.saload, 1)) (hp : pc + 1 = pc') (hj : j.toInt = i) (h0 : 0 ≤ i) (h1 : i < z) (hv : f i = v) (k : Go p e below P (T.setTop (mkF m pc' Ls (v :: rest)))) : Go p e below P (T.setTop (mkF m pc Ls (.int j :: .ref a :: rest))) := by
  subst hp hv
  obtain ⟨cl, A, r1, r2, r3⟩ := A
  obtain ⟨q1, q2⟩ := in_of r1 hj h0 h1
  exact Go.st (fun t k => X.saload hx (j := j) (v := f i) (by rw [eT]; exact A.1) (State.isArrayOf_alike hZ.alike A.2.1) A.2.2 q1 (by rw [q2, r3 _ (by omega)]; congr 2; omega) (g := mkF m pc Ls (.int j :: .ref a :: rest)) rfl rfl (hb hby hd) _ k) k
theorem Go.aaload {j : Int32} (X : Stand p l e R s m args below meth c T locs cells slots) (hx : p.tables.exec = Jvm.exec) (hby : c.code = by_) (hZ : Z.Warmed39 s.vm) (eT : T.heap = h) (A : Ar Z h a ty z f) (hty : ty.isReference = true) (hd : decode by_ pc = .ok (.aaload, 1)) (hp : pc + 1 = pc') (hj : j.toInt = i) (h0 : 0 ≤ i) (h1 : i < z) (hv : f i = v) (k : Go p e below P (T.setTop (mkF m pc' Ls (v :: rest)))) : Go p e below P (T.setTop (mkF m pc Ls (.int j :: .ref a :: rest))) := by
  subst hp hv
  obtain ⟨cl, A, r1, r2, r3⟩ := A
  obtain ⟨q1, q2⟩ := in_of r1 hj h0 h1
  exact Go.st (fun t k => X.aaload hx (j := j) (v := f i) (by rw [eT]; exact A.1) (State.isArrayOf_alike hZ.alike A.2.1) hty A.2.2 q1 (by rw [q2, r3 _ (by omega)]; congr 2; omega) (g := mkF m pc Ls (.int j :: .ref a :: rest)) rfl rfl (hb hby hd) _ k) k
theorem Go.iastore {j : Int32} {x : Int32} (X : Stand p l e R s m args below meth c T locs cells slots) (hx : p.tables.exec = Jvm.exec) (hby : c.code = by_) (hZ : Z.Warmed39 s.vm) (eT : T.heap = h) (A : Ar Z h a .int z f) (hd : decode by_ pc = .ok (.iastore, 1)) (hp : pc + 1 = pc') (hj : j.toInt = i) (h0 : 0 ≤ i) (h1 : i < z)
    (k : ∀ (T' : State) (h' : Heap), Stand p l e R s m args below meth c T' (locs ++ [⟨a, i.toNat⟩]) cells slots → T'.heap = h' → Wr h h' a i.toNat (.int x) → Ar Z h' a .int z (fun q => if q = i then (.int x) else f q) → Go p e below P (T'.setTop (mkF m pc' Ls rest))) : Go p e below P (T.setTop (mkF m pc Ls (.int x :: .int j :: .ref a :: rest))) := by
  subst hp
  have A0 := A
  obtain ⟨cl, A, r1, r2, r3⟩ := A
  obtain ⟨q1, q2⟩ := in_of r1 hj h0 h1
  obtain ⟨T', h', X', e', W', st⟩ := stI X hx hZ eT A (j := j) q1 (g := mkF m pc Ls (.int x :: .int j :: .ref a :: rest)) rfl rfl (hb hby hd)
  rw [q2] at X' W'
  exact Go.st st (k T' h' X' e' W' (A0.set W' h0))
theorem Go.castore {j : Int32} {x : Int32} (X : Stand p l e R s m args below meth c T locs cells slots) (hx : p.tables.exec = Jvm.exec) (hby : c.code = by_) (hZ : Z.Warmed39 s.vm) (eT : T.heap = h) (A : Ar Z h a .char z f) (hd : decode by_ pc = .ok (.castore, 1)) (hp : pc + 1 = pc') (hj : j.toInt = i) (h0 : 0 ≤ i) (h1 : i < z)
    (k : ∀ (T' : State) (h' : Heap), Stand p l e R s m args below meth c T' (locs ++ [⟨a, i.toNat⟩]) cells slots → T'.heap = h' → Wr h h' a i.toNat (.int (nar .char x)) → Ar Z h' a .char z (fun q => if q = i then (.int (nar .char x)) else f q) → Go p e below P (T'.setTop (mkF m pc' Ls rest))) : Go p e below P (T.setTop (mkF m pc Ls (.int x :: .int j :: .ref a :: rest))) := by
  subst hp
  have A0 := A
  obtain ⟨cl, A, r1, r2, r3⟩ := A
  obtain ⟨q1, q2⟩ := in_of r1 hj h0 h1
  obtain ⟨T', h', X', e', W', st⟩ := stC X hx hZ eT A (j := j) q1 (g := mkF m pc Ls (.int x :: .int j :: .ref a :: rest)) rfl rfl (hb hby hd)
  rw [q2] at X' W'
  exact Go.st st (k T' h' X' e' W' (A0.set W' h0))
theorem Go.bastore {j : Int32} {x : Int32} (X : Stand p l e R s m args below meth c T locs cells slots) (hx : p.tables.exec = Jvm.exec) (hby : c.code = by_) (hZ : Z.Warmed39 s.vm) (eT : T.heap = h) (A : Ar Z h a .byte z f) (hd : decode by_ pc = .ok (.bastore, 1)) (hp : pc + 1 = pc') (hj : j.toInt = i) (h0 : 0 ≤ i) (h1 : i < z)
    (k : ∀ (T' : State) (h' : Heap), Stand p l e R s m args below meth c T' (locs ++ [⟨a, i.toNat⟩]) cells slots → T'.heap = h' → Wr h h' a i.toNat (.int (nar .byte x)) → Ar Z h' a .byte z (fun q => if q = i then (.int (nar .byte x)) else f q) → Go p e below P (T'.setTop (mkF m pc' Ls rest))) : Go p e below P (T.setTop (mkF m pc Ls (.int x :: .int j :: .ref a :: rest))) := by
  subst hp
  have A0 := A
  obtain ⟨cl, A, r1, r2, r3⟩ := A
  obtain ⟨q1, q2⟩ := in_of r1 hj h0 h1
  obtain ⟨T', h', X', e', W', st⟩ := stB X hx hZ eT A (j := j) q1 (g := mkF m pc Ls (.int x :: .int j :: .ref a :: rest)) rfl rfl (hb hby hd)
  rw [q2] at X' W'
  exact Go.st st (k T' h' X' e' W' (A0.set W' h0))
theorem Go.lastore {j : Int32} {x : Int64} (X : Stand p l e R s m args below meth c T locs cells slots) (hx : p.tables.exec = Jvm.exec) (hby : c.code = by_) (hZ : Z.Warmed39 s.vm) (eT : T.heap = h) (A : Ar Z h a .long z f) (hd : decode by_ pc = .ok (.lastore, 1)) (hp : pc + 1 = pc') (hj : j.toInt = i) (h0 : 0 ≤ i) (h1 : i < z)
    (k : ∀ (T' : State) (h' : Heap), Stand p l e R s m args below meth c T' (locs ++ [⟨a, i.toNat⟩]) cells slots → T'.heap = h' → Wr h h' a i.toNat (.long x) → Ar Z h' a .long z (fun q => if q = i then (.long x) else f q) → Go p e below P (T'.setTop (mkF m pc' Ls rest))) : Go p e below P (T.setTop (mkF m pc Ls (.long x :: .int j :: .ref a :: rest))) := by
  subst hp
  have A0 := A
  obtain ⟨cl, A, r1, r2, r3⟩ := A
  obtain ⟨q1, q2⟩ := in_of r1 hj h0 h1
  obtain ⟨T', h', X', e', W', st⟩ := stJ X hx hZ eT A (j := j) q1 (g := mkF m pc Ls (.long x :: .int j :: .ref a :: rest)) rfl rfl (hb hby hd)
  rw [q2] at X' W'
  exact Go.st st (k T' h' X' e' W' (A0.set W' h0))
theorem Go.aastore {j : Int32} (X : Stand p l e R s m args below meth c T locs cells slots) (hx : p.tables.exec = Jvm.exec) (hby : c.code = by_) (hZ : Z.Warmed39 s.vm) (eT : T.heap = h) (A : Ar Z h a ty z f) (hty : ty.isReference = true) (F : Sto Z h a v) (hd : decode by_ pc = .ok (.aastore, 1)) (hp : pc + 1 = pc') (hj : j.toInt = i) (h0 : 0 ≤ i) (h1 : i < z)
    (k : ∀ (T' : State) (h' : Heap), Stand p l e R s m args below meth c T' (locs ++ [⟨a, i.toNat⟩]) cells slots → T'.heap = h' → Wr h h' a i.toNat v → Ar Z h' a ty z (fun q => if q = i then v else f q) → Go p e below P (T'.setTop (mkF m pc' Ls rest))) : Go p e below P (T.setTop (mkF m pc Ls (v :: .int j :: .ref a :: rest))) := by
  subst hp
  have A0 := A
  obtain ⟨cl, A, r1, r2, r3⟩ := A
  obtain ⟨q1, q2⟩ := in_of r1 hj h0 h1
  obtain ⟨T', h', X', e', W', st⟩ := stR X hx hZ eT A (j := j) q1 hty F (g := mkF m pc Ls (v :: .int j :: .ref a :: rest)) rfl rfl (hb hby hd)
  rw [q2] at X' W'
  exact Go.st st (k T' h' X' e' W' (A0.set W' h0))
theorem Go.newarr {aty : ArrayType} {n : Int32} {cap : Nat} (X : Stand p l e R s m args below meth c T locs cells slots) (hx : p.tables.exec = Jvm.exec) (hby : c.code = by_) (hZ : Z.Warmed39 s.vm) (w : (Jvm.Cond.arrayClass (newarray.typeOf aty)).before a0 Z = true) (eT : T.heap = h) (hd : decode by_ pc = .ok (.newarray aty, 2)) (hp : pc + 2 = pc') (hz : n.toInt = z) (h0 : 0 ≤ z) (hcap : z ≤ cap) (hb0 : cap * 8 ≤ 536870912) (hc : cells + 1 ≤ R.cells) (hl : slots + cap ≤ R.slots)
    (k : ∀ (b : Addr) (T' : State) (h' : Heap), b = h.size → Stand p l e R s m args below meth c T' locs (cells + 1) (slots + cap) → T'.heap = h' → Ext h h' → Ar Z h' b (newarray.typeOf aty) z (fun _ => defaultValue (newarray.typeOf aty)) → Go p e below P (T'.setTop (mkF m pc' Ls (.ref b :: rest)))) : Go p e below P (T.setTop (mkF m pc Ls (.int n :: rest))) := by
  subst hp
  obtain ⟨T', h', cA, X', e', E', A', st⟩ := newP X hx hZ w eT (g := mkF m pc Ls (.int n :: rest)) rfl (hb hby hd) rfl (by rw [Int32.lt_iff_toInt_lt, hz, show (0 : Int32).toInt = 0 from by decide]; omega) (cap := cap) (by simp only [Int32.toNatClampNeg, hz]; omega) hb0 hc hl
  exact Go.st st (k _ T' h' rfl X' e' E' (Ar.new A' hz h0))
theorem Go.new_ {own C : String} {index n : Nat} (X : Stand p l e R s m args below meth c T locs cells slots) (hx : p.tables.exec = Jvm.exec) (hby : c.code = by_) (hZ : Z.Warmed39 s.vm) (hown : s.vm.findClass own = some m.cls) (w : (Jvm.Cond.classLink own index C).before a0 Z = true) (wi : (Jvm.Cond.instantiable C n).before a0 Z = true) (wz : (Jvm.Cond.initialized C).before a0 Z = true) (eT : T.heap = h) (hd : decode by_ pc = .ok (.new index, 3)) (hp : pc + 3 = pc') (hc : cells + 1 ≤ R.cells) (hl : slots + n ≤ R.slots)
    (k : ∀ (b : Addr) (T' : State) (h' : Heap), b = h.size → Stand p l e R s m args below meth c T' locs (cells + 1) (slots + n) → T'.heap = h' → Ext h h' → Exa Z h' b C → (∀ {O nm d : String} {ty : FieldType}, Laid Z a0 C O nm d → parseFieldDescriptor d = some ty → Fld Z h' b O nm d (defaultValue ty)) → Go p e below P (T'.setTop (mkF m pc' Ls (.ref b :: rest)))) : Go p e below P (T.setTop (mkF m pc Ls rest)) := by
  subst hp
  obtain ⟨T', h', X', e', E', A', D', -, st⟩ := newO X hx hZ hown w wi wz eT (g := mkF m pc Ls rest) rfl (hb hby hd) hc hl
  exact Go.st st (k _ T' h' rfl X' e' E' A' D')
theorem Go.getF {own R0 O n d : String} {index : Nat} (X : Stand p l e R s m args below meth c T locs cells slots) (hx : p.tables.exec = Jvm.exec) (hby : c.code = by_) (hZ : Z.Warmed39 s.vm) (hown : s.vm.findClass own = some m.cls) (w : (Jvm.Cond.fieldLink own index R0 n d).before a0 Z = true) (via : Via Z R0 O n d) (eT : T.heap = h) (F : Fld Z h a O n d v) (hd : decode by_ pc = .ok (.getfield index, 3)) (hp : pc + 3 = pc')
    (k : ∀ T' : State, Stand p l e R s m args below meth c T' locs cells slots → T'.heap = h → Go p e below P (T'.setTop (mkF m pc' Ls (v :: rest)))) : Go p e below P (T.setTop (mkF m pc Ls (.ref a :: rest))) := by
  subst hp
  obtain ⟨T', X', e', st⟩ := Jvm.RoadKit.getF X hx hZ hown (host := "") (Or.inl w) via eT F (g := mkF m pc Ls (.ref a :: rest)) rfl rfl (hb hby hd)
  exact Go.st st (k T' X' e')
theorem Go.getSt {own R0 O n d : String} {index : Nat} (X : Stand p l e R s m args below meth c T locs cells slots) (hx : p.tables.exec = Jvm.exec) (hby : c.code = by_) (hZ : Z.Warmed39 s.vm) (hown : s.vm.findClass own = some m.cls) (w : (Jvm.Cond.fieldLink own index R0 n d).before a0 Z = true) (via : Via Z R0 O n d) (eT : T.heap = h) (F : Sta Z h O n d v) (hd : decode by_ pc = .ok (.getstatic index, 3)) (hp : pc + 3 = pc')
    (k : ∀ T' : State, Stand p l e R s m args below meth c T' locs cells slots → T'.heap = h → Go p e below P (T'.setTop (mkF m pc' Ls (v :: rest)))) : Go p e below P (T.setTop (mkF m pc Ls rest)) := by
  subst hp
  obtain ⟨T', X', e', st⟩ := Jvm.RoadKit.getS X hx hZ (host := "") hown w via eT F (g := mkF m pc Ls rest) rfl (hb hby hd)
  exact Go.st st (k T' X' e')
theorem Go.putF {own R0 O n d C : String} {index kk : Nat} {old : Value} (X : Stand p l e R s m args below meth c T locs cells slots) (hx : p.tables.exec = Jvm.exec) (hby : c.code = by_) (hZ : Z.Warmed39 s.vm) (hown : s.vm.findClass own = some m.cls) (w : (Jvm.Cond.fieldLink own index R0 n d).before a0 Z = true) (via : Via Z R0 O n d) (eT : T.heap = h) (F : Fld Z h a O n d old) (E : Exa Z h a C) (L : (Jvm.Cond.lays C O n d).before a0 Z = true ∨ ((Jvm.Cond.laysFinal C O n d).before a0 Z = true ∧ own = O ∧ meth.name = "<init>")) (wi : (Jvm.Cond.instantiable C kk).before a0 Z = true)
    (hty : parseFieldDescriptor d = some ty) (hn : narrow ty v = v) (hf : fits ty v = true) (hd : decode by_ pc = .ok (.putfield index, 3)) (hp : pc + 3 = pc')
    (k : ∀ (T' : State) (h' : Heap), Stand p l e R s m args below meth c T' (locs ++ [⟨a, slotOf Z O n d⟩]) cells slots → T'.heap = h' → Wr h h' a (slotOf Z O n d) v → Go p e below P (T'.setTop (mkF m pc' Ls rest))) : Go p e below P (T.setTop (mkF m pc Ls (v :: .ref a :: rest))) := by
  subst hp
  obtain ⟨T', h', X', e', W', st⟩ := Jvm.RoadKit.putF X hx hZ hown (host := "") (Or.inl w) via eT F E L wi hty hn hf (g := mkF m pc Ls (v :: .ref a :: rest)) rfl rfl (hb hby hd)
  exact Go.st st (k T' h' X' e' W')
theorem Go.initO {own : String} {idx W : Nat} (X : Stand p l e R s m args below meth c T locs cells slots) (hx : p.tables.exec = Jvm.exec) (hby : c.code = by_) (hZ : Z.Warmed39 s.vm) (hown : s.vm.findClass own = some m.cls) (w1 : (Jvm.Cond.methodLink own idx Lib.objectInit).before a0 Z = true) (w2 : (Jvm.Cond.instanceMethod Lib.objectInit).before a0 Z = true) (w3 : (Jvm.Cond.code Lib.objectInit ⟨#[0xb1]⟩ 1 none).before a0 Z = true) (eT : T.heap = h) (hsize : Ls.size = c.maxLocals) (hd : decode by_ pc = .ok (.invokespecial idx, 3)) (hp : pc + 3 = pc') (hf : 1 ≤ R.frames) (hW : 0 + (rest.map fun v => v.category).sum ≤ W) (hl : W + 12 ≤ R.locals)
    (k : ∀ T' : State, Stand p l e R s m args below meth c T' locs cells slots → T'.heap = h → Go p e below P (T'.setTop (mkF m pc' Ls rest))) : Go p e below P (T.setTop (mkF m pc Ls (.ref a :: rest))) := by
  subst hp
  obtain ⟨T', X', e', st⟩ := Jvm.RoadKit.initO X hx hZ hown w1 w2 w3 eT (g := mkF m pc Ls (.ref a :: rest)) rfl hsize rfl (hb hby hd) hf (W := W) hW hl
  exact Go.st st (k T' X' e')
theorem Fr.one {n : Nat} (q : n ≤ a) : Fr n [⟨a, sl⟩] := fun y hy => by cases List.mem_singleton.mp hy; exact q
end OwnHeap

section OwnMore
variable {p : Program} {l : Launch} {e : Env} {R : Room} {s : State} {m : MethodId} {args : Array Value} {below : List Frame} {meth : Method} {c : Code} {T : State} {locs : List Loc} {cells slots : Nat} {Z : State} {a0 : Array Value} {h h' : Heap} {P : Option Value → State → Prop} {by_ : ByteArray} {pc pc' : Nat} {Ls : Array Slot} {rest : List Value} {a b y : Addr} {ty : FieldType} {z i : Int} {f : Int → Value} {sl : Nat} {v : Value} {ws : List Addr} {C : String}
/-- the array at a is one of C's -/
def Ov (Z : State) (h : Heap) (a : Addr) (C : String) : Prop := ∃ cl : Cell, h[a]? = some cl ∧ Ovr Z cl.cls C
theorem Ov.ext (F : Ov Z h a C) (E : Ext h h') : Ov Z h' a C := by obtain ⟨cl, q, r⟩ := F; exact ⟨cl, E.2 _ _ q, r⟩
theorem Ov.wr (F : Ov Z h a C) (W : Wr h h' b sl v) : Ov Z h' a C := by
  obtain ⟨cl, q, r⟩ := F
  obtain ⟨c', e1, e2, -⟩ := wr_at W q
  exact ⟨c', e1, by rw [e2]; exact r⟩
theorem Ov.keep (F : Ov Z h a C) (K : Keep h h' ws) : Ov Z h' a C := by
  obtain ⟨cl, q, r⟩ := F
  obtain ⟨c', e1, e2, -⟩ := K.2.2 _ _ q
  exact ⟨c', e1, by rw [e2]; exact r⟩
theorem Sto.ofA (A : Ar Z h a ty z f) (O : Ov Z h a C) (I : Ins Z h y C true) : Sto Z h a (.ref y) := by
  obtain ⟨cl, A, -⟩ := A
  obtain ⟨cl', q, r⟩ := O
  cases q.symm.trans A.1
  exact Sto.of A r I
theorem Go.anewarr {own : String} {index : Nat} {n : Int32} {cap : Nat} (X : Stand p l e R s m args below meth c T locs cells slots) (hx : p.tables.exec = Jvm.exec) (hby : c.code = by_) (hZ : Z.Warmed39 s.vm) (hown : s.vm.findClass own = some m.cls) (w1 : (Jvm.Cond.classLink own index C).before a0 Z = true) (w2 : (Jvm.Cond.arrayOver (.object C)).before a0 Z = true) (eT : T.heap = h) (hd : decode by_ pc = .ok (.anewarray index, 3)) (hp : pc + 3 = pc') (hz : n.toInt = z) (h0 : 0 ≤ z) (hcap : z ≤ cap) (hb0 : cap * 8 ≤ 536870912) (hc : cells + 1 ≤ R.cells) (hl : slots + cap ≤ R.slots)
    (k : ∀ (b : Addr) (T' : State) (h' : Heap), b = h.size → Stand p l e R s m args below meth c T' locs (cells + 1) (slots + cap) → T'.heap = h' → Ext h h' → Ar Z h' b (.object C) z (fun _ => .null) → Ov Z h' b C → Go p e below P (T'.setTop (mkF m pc' Ls (.ref b :: rest)))) : Go p e below P (T.setTop (mkF m pc Ls (.int n :: rest))) := by
  subst hp
  obtain ⟨T', h', cA, X', e', E', A', O', st⟩ := newR X hx hZ hown w1 w2 eT (g := mkF m pc Ls (.int n :: rest)) rfl (hb hby hd) rfl (by rw [Int32.lt_iff_toInt_lt, hz, show (0 : Int32).toInt = 0 from by decide]; omega) (cap := cap) (by simp only [Int32.toNatClampNeg, hz]; omega) hb0 hc hl
  exact Go.st st (k _ T' h' rfl X' e' E' (Ar.new A' hz h0) ⟨_, A'.1, O'⟩)
theorem Go.callP {own : String} {index : Nat} {y : MethodName} {bytes : ByteArray} {maxL : Nat} {ret : Option FieldType} {rm : Room} {W : Nat} {as : Array Value} {Qc : Option Value → Heap → List Loc → Prop} {argsL st : List Value} {ps : List FieldType} {rt : Option FieldType} {a : Addr} (X : Stand p l e R s m args below meth c T locs cells slots) (hx : p.tables.exec = Jvm.exec) (hby : c.code = by_) (hZ : Z.Warmed39 s.vm) (hown : s.vm.findClass own = some m.cls)
    (w1 : (Jvm.Cond.methodLink own index y).before a0 Z = true) (w2 : (Jvm.Cond.instanceMethod y).before a0 Z = true) (w5 : (Jvm.Cond.selects y.cls y y).before a0 Z = true) (w6 : (Jvm.Cond.privateMethod y).before a0 Z = true) (w3 : (Jvm.Cond.initialized y.cls).before a0 Z = true) (w4 : (Jvm.Cond.code y bytes maxL ret).before a0 Z = true) (hy : y.cls ≠ "java/lang/invoke/MethodHandle" ∧ y.cls ≠ "java/lang/invoke/VarHandle")
    (hM : Con l Z y bytes maxL ret [] rm as h Qc) (eT : T.heap = h) (hE : Exa Z h a C) (hf : rm.frames + 1 ≤ R.frames) (hl : W + (maxL + 11) + rm.locals ≤ R.locals) (hsize : Ls.size = c.maxLocals) (hpd : parseMethodDescriptor y.desc = some ⟨ps, rt⟩) (hlen : argsL.length = ps.length) (hst : st = argsL.reverse ++ .ref a :: rest) (has : (.ref a :: argsL).toArray = as) (hW : 0 + (rest.map fun v => v.category).sum ≤ W)
    (hd : decode by_ pc = .ok (.invokevirtual index, 3)) (hp : pc + 3 = pc') (hc : cells + rm.cells ≤ R.cells) (hs : slots + rm.slots ≤ R.slots)
    (k : ∀ (v : Option Value) (T' : State) (L : List Loc), Stand p l e R s m args below meth c T' (locs ++ L) (cells + rm.cells) (slots + rm.slots) → Qc v T'.heap L → Go p e below P (T'.setTop (mkF m pc' Ls (v.toList ++ rest)))) : Go p e below P (T.setTop (mkF m pc Ls st)) := by
  subst hp
  obtain ⟨cq, q1, q2⟩ := hE.cell
  obtain ⟨v, _, ⟨T3, L3, k3, n3⟩, -, X3, ⟨Lc3, hQ3, l3, y3, z3⟩, st3⟩ := X.privateBack hx (y := y) hown (mvT hZ w1) (mvT hZ w2) (mvT hZ w5) (Cond.privateMethod_at (mvP hZ w6 (args := #[]))) (mvT hZ w4) hy (backOf (W := W) hM hZ w4 w3 hf hl) (g := mkF m pc Ls st) rfl hsize (Steps.refl _) (a := a) (by rw [eT]; exact q1) q2 (argsL := argsL) (rest := rest) (lenOf hpd hlen) hst hW (hb hby hd) (fun _ _ => ⟨has, eT, hc, hs⟩)
  dsimp only [Pt.U, Pt.locs, Pt.cells, Pt.slots] at X3 l3 y3 z3 st3 hQ3
  subst l3 y3 z3
  exact Go.via st3 (k v T3 Lc3 X3 hQ3)
theorem Go.callF {own : String} {index count : Nat} {x y : MethodName} {bytes : ByteArray} {maxL : Nat} {ret : Option FieldType} {rm : Room} {W : Nat} {as : Array Value} {Qc : Option Value → Heap → List Loc → Prop} {argsL st : List Value} {ps : List FieldType} {rt : Option FieldType} {a : Addr} (X : Stand p l e R s m args below meth c T locs cells slots) (hx : p.tables.exec = Jvm.exec) (hby : c.code = by_) (hZ : Z.Warmed39 s.vm) (hown : s.vm.findClass own = some m.cls)
    (w1 : (Jvm.Cond.methodLink own index x).before a0 Z = true) (w2 : (Jvm.Cond.declares x).before a0 Z = true) (w7 : (Jvm.Cond.interfaceMethod x.cls x.cls x.name x.desc).before args s = true) (w5 : (Jvm.Cond.selects C x y).before a0 Z = true) (w6 : (Jvm.Cond.instanceMethod y).before a0 Z = true) (w8 : (Jvm.Cond.publicMethod y).before a0 Z = true) (w9 : (Jvm.Cond.unhidden C x.name x.desc).before a0 Z = true) (w10 : (Jvm.Cond.castable C x.cls).before a0 Z = true) (w3 : (Jvm.Cond.initialized y.cls).before a0 Z = true) (w4 : (Jvm.Cond.code y bytes maxL ret).before a0 Z = true) (hy : x.cls ≠ "java/lang/invoke/MethodHandle" ∧ x.cls ≠ "java/lang/invoke/VarHandle")
    (hM : Con l Z y bytes maxL ret [] rm as h Qc) (eT : T.heap = h) (hE : Exa Z h a C) (hf : rm.frames + 1 ≤ R.frames) (hl : W + (maxL + 11) + rm.locals ≤ R.locals) (hsize : Ls.size = c.maxLocals) (hpd : parseMethodDescriptor x.desc = some ⟨ps, rt⟩) (hlen : argsL.length = ps.length) (hst : st = argsL.reverse ++ .ref a :: rest) (has : (.ref a :: argsL).toArray = as) (hW : 0 + (rest.map fun v => v.category).sum ≤ W)
    (hd : decode by_ pc = .ok (.invokeinterface index count, 5)) (hp : pc + 5 = pc') (hc : cells + rm.cells ≤ R.cells) (hs : slots + rm.slots ≤ R.slots)
    (k : ∀ (v : Option Value) (T' : State) (L : List Loc), Stand p l e R s m args below meth c T' (locs ++ L) (cells + rm.cells) (slots + rm.slots) → Qc v T'.heap L → Go p e below P (T'.setTop (mkF m pc' Ls (v.toList ++ rest)))) : Go p e below P (T.setTop (mkF m pc Ls st)) := by
  subst hp
  obtain ⟨cq, kq, q4a, q4b, q4c⟩ := isOf (T := T) hZ eT hE
  obtain ⟨v, _, ⟨T3, L3, k3, n3⟩, -, X3, ⟨Lc3, hQ3, l3, y3, z3⟩, st3⟩ := X.interfaceBack hx (xi := x) (y := y) hown (mvT hZ w1) (mvT hZ w2) w7 (mvT hZ w5) (mvT hZ w6) (mvT hZ w8) (mvT hZ w9) (mvT hZ w10) hy (backOf (W := W) hM hZ w4 w3 hf hl) q4a q4b q4c (g := mkF m pc Ls st) rfl hsize (Steps.refl _) (argsL := argsL) (rest := rest) (lenOf hpd hlen) hst hW (hb hby hd) (fun _ _ => ⟨has, eT, hc, hs⟩)
  dsimp only [Pt.U, Pt.locs, Pt.cells, Pt.slots] at X3 l3 y3 z3 st3 hQ3
  subst l3 y3 z3
  exact Go.via st3 (k v T3 Lc3 X3 hQ3)
end OwnMore

end Jvm.RoadKit
namespace Jvm.Pilot.@@N@@
open Jvm Jvm.ClassFile Sem Op Lib Jvm.Free Jvm.Stand Jvm.LawKit Jvm.RoadKit Bundle Jvm.Pilot.@@N@@.Jvm.D
theorem own_ins {Z : State} {h h' : Heap} {a : Addr} {C : String} {bo : Bool} {ws : List Addr} (F : Ins Z h a C bo) (K : Keep h h' ws) : Ins Z h' a C bo := by
  obtain ⟨cell, cT, h1, h2, h3⟩ := F
  obtain ⟨c', e1, e2, e3, -⟩ := K.2.2 _ _ h1
  exact ⟨c', cT, e1, h2, by rw [e2, e3]; exact h3⟩
theorem own_ne {Z : State} {h : Heap} {a b : Addr} {C : String} {k : Nat} {a0 : Array Value} {ty : FieldType} {z : Int} {f : Int → Value} (E : Exa Z h a C) (wi : (Jvm.Cond.instantiable C k).before a0 Z = true) (A : Ar Z h b ty z f) : a ≠ b := by
  obtain ⟨cl, A, -⟩ := A
  exact ne_arr E wi A
theorem own_zero {s : State} {args : Array Value} {t : Term} {d : Addr} {c : Cell} {ty : FieldType} (ev : t.eval args s none [] s = some (.ref d)) (A : Arr s s.heap d c ty) (hl : (Jvm.Cond.eq (.length t) (.int 0)).value args s none s [] = some true) : Ar s s.heap d ty 0 (fun _ => .null) := by
  have ha := Arr.fin (Vm.Alike.refl _) A
  have h0 : c.slots.size = 0 := by
    simp only [Cond.value, Term.eval, ev, ha, Option.bind_eq_bind, Option.bind_some] at hl
    by_cases hs : c.slots.size < 2 ^ 31
    · simp [hs] at hl
      have q := len_toInt hs
      rw [hl] at q
      have : (0 : Int32).toInt = 0 := by decide
      omega
    · simp [hs] at hl
  exact ⟨c, A, by omega, by decide, fun i hi => absurd hi (by omega)⟩
def own_max (x y : Int32) : Int32 := if x < y then y else x
theorem pd_0 : parseMethodDescriptor "()I" = some ⟨[], some .int⟩ := by decide +kernel
theorem pd_1 : parseMethodDescriptor "()V" = some ⟨[], none⟩ := by decide +kernel
theorem pd_2 : parseMethodDescriptor "()Z" = some ⟨[], some .boolean⟩ := by decide +kernel
theorem pd_3 : parseMethodDescriptor "()[Ljava/lang/Object;" = some ⟨[], some (.array (.object "java/lang/Object"))⟩ := by decide +kernel
theorem pd_4 : parseMethodDescriptor "(I)[Ljava/lang/Object;" = some ⟨[.int], some (.array (.object "java/lang/Object"))⟩ := by decide +kernel
theorem pd_5 : parseMethodDescriptor "(II)I" = some ⟨[.int, .int], some .int⟩ := by decide +kernel
theorem pd_6 : parseMethodDescriptor "(III)I" = some ⟨[.int, .int, .int], some .int⟩ := by decide +kernel
theorem pd_7 : parseMethodDescriptor "(I[B)V" = some ⟨[.int, (.array .byte)], none⟩ := by decide +kernel
theorem pd_8 : parseMethodDescriptor "(Ljava/lang/Object;)Z" = some ⟨[(.object "java/lang/Object")], some .boolean⟩ := by decide +kernel
theorem pd_9 : parseMethodDescriptor "(Ljava/lang/Object;[Ljava/lang/Object;I)V" = some ⟨[(.object "java/lang/Object"), (.array (.object "java/lang/Object")), .int], none⟩ := by decide +kernel
theorem pd_10 : parseMethodDescriptor "([C)V" = some ⟨[(.array .char)], none⟩ := by decide +kernel
theorem d5_0 : decode jdk_22_method_1_code 0 = .ok (.aload_n 0, 1) := by decide +kernel
theorem d5_1 : decode jdk_22_method_1_code 1 = .ok (.invokespecial 1, 3) := by decide +kernel
theorem d5_4 : decode jdk_22_method_1_code 4 = .ok (.return_, 1) := by decide +kernel
theorem ef_5 (m : MethodId) (x0 : Addr) : entryFrame m #[(.ref x0)] 1 = mkF m 0 #[.val (.ref x0)] [] := by first | (simp [entryFrame, mkF, argsToLocals, Value.category]; done) | rfl
theorem pn_AbstractCollection : plainName "java/util/AbstractCollection" = true := by first | (simp [plainName, overriddenIn]; done) | decide +kernel
set_option maxRecDepth 65536 in
set_option maxHeartbeats 40000000 in
theorem rmAC (l : Launch) (Z : State) (a0 : Array Value) (hw : ∀ d ∈ tables_1, d.before a0 Z = true) (a : Addr) (h0 : Heap) :
    Con l Z (⟨"java/util/AbstractCollection", "<init>", "()V"⟩ : MethodName) jdk_22_method_1_code 1 none [] ({ frames := 1, cells := 0, slots := 0, locals := 12 } : Room) #[(.ref a)] h0 (PQ none h0) := by
  refine Con.of (plainFor_of_name pn_AbstractCollection) ?_
  intro p e s m below meth c s₁ hx hby hml hown hnm hret hlk hZ X0 e0
  refine Go.cast (ef_5 m a) ?_
  replace hown : s.vm.findClass "java/util/AbstractCollection" = some m.cls := hown
  refine Go.aloadN (pc' := 1) X0 hx hby d5_0 rfl rfl rfl ?_
  refine Go.initO (pc' := 4) (W := 0) X0 hx hby hZ hown (hw _ (List.mem_of_getElem? (i := 29) rfl)) (hw _ (List.mem_of_getElem? (i := 9) rfl)) (hw _ (List.mem_of_getElem? (i := 10) rfl)) e0 (by rw [hml]; rfl) d5_1 rfl (by decide) (Nat.le_of_eq rfl) (by decide) ?_
  intro T1 X2 e3
  exact Go.ret0 X2 hx hby hlk hret d5_4 (by decide) (by decide) ⟨rfl, rfl, e3⟩
theorem d4_0 : decode jdk_39_method_1_code 0 = .ok (.aload_n 0, 1) := by decide +kernel
theorem d4_1 : decode jdk_39_method_1_code 1 = .ok (.invokespecial 1, 3) := by decide +kernel
theorem d4_4 : decode jdk_39_method_1_code 4 = .ok (.aload_n 0, 1) := by decide +kernel
theorem d4_5 : decode jdk_39_method_1_code 5 = .ok (.iconst 0, 1) := by decide +kernel
theorem d4_6 : decode jdk_39_method_1_code 6 = .ok (.putfield 7, 3) := by decide +kernel
theorem d4_9 : decode jdk_39_method_1_code 9 = .ok (.return_, 1) := by decide +kernel
theorem ef_4 (m : MethodId) (x0 : Addr) : entryFrame m #[(.ref x0)] 1 = mkF m 0 #[.val (.ref x0)] [] := by first | (simp [entryFrame, mkF, argsToLocals, Value.category]; done) | rfl
theorem pn_AbstractList : plainName "java/util/AbstractList" = true := by first | (simp [plainName, overriddenIn]; done) | decide +kernel
set_option maxRecDepth 65536 in
set_option maxHeartbeats 40000000 in
theorem rmAL (l : Launch) (Z : State) (a0 : Array Value) (hw : ∀ d ∈ tables_1, d.before a0 Z = true) (a : Addr) (h0 : Heap) (E0 : Exa Z h0 a "java/util/ArrayList") (F0 : Fld Z h0 a "java/util/AbstractList" "modCount" "I" (.int 0)) :
    Con l Z (⟨"java/util/AbstractList", "<init>", "()V"⟩ : MethodName) jdk_39_method_1_code 1 none [] ({ frames := 2, cells := 0, slots := 0, locals := 24 } : Room) #[(.ref a)] h0 (fun v h L => v = none ∧ L = [⟨a, Jvm.RoadKit.slotOf Z "java/util/AbstractList" "modCount" "I"⟩] ∧ Wr h0 h a (Jvm.RoadKit.slotOf Z "java/util/AbstractList" "modCount" "I") (.int 0)) := by
  refine Con.of (plainFor_of_name pn_AbstractList) ?_
  intro p e s m below meth c s₁ hx hby hml hown hnm hret hlk hZ X0 e0
  refine Go.cast (ef_4 m a) ?_
  replace hown : s.vm.findClass "java/util/AbstractList" = some m.cls := hown
  refine Go.aloadN (pc' := 1) X0 hx hby d4_0 rfl rfl rfl ?_
  refine Go.callI (pc' := 4) (a := a) (W := 0) (argsL := []) (rest := []) X0 hx hby rfl hZ hown (hw _ (List.mem_of_getElem? (i := 23) rfl)) (hw _ (List.mem_of_getElem? (i := 24) rfl)) (hw _ (List.mem_of_getElem? (i := 27) rfl)) (hw _ (List.mem_of_getElem? (i := 28) rfl)) (by decide) (rmAC l Z a0 hw a h0) e0 (by decide) (by decide) (by rw [hml]; rfl) pd_1 rfl rfl rfl (Nat.le_of_eq rfl) d4_1 rfl (by decide) (by decide) ?_
  rintro r1 T2 L3 X4 ⟨rfl, rfl, e1⟩
  rw [List.append_nil] at X4
  show Go p e below _ (T2.setTop (mkF m 4 #[.val (.ref a)] []))
  refine Go.aloadN (pc' := 5) X4 hx hby d4_4 rfl rfl rfl ?_
  refine Go.iconst (pc' := 6) X4 hx hby d4_5 rfl (v := (0 : Int32)) (by decide) ?_
  refine Go.putF (pc' := 9) (ty := .int) X4 hx hby hZ hown (hw _ (List.mem_of_getElem? (i := 30) rfl)) Via.refl e1 F0 E0 (Or.inl (hw _ (List.mem_of_getElem? (i := 31) rfl))) (hw _ (List.mem_of_getElem? (i := 12) rfl)) (by decide) rfl rfl d4_6 rfl ?_
  intro T5 h6 X7 e8 W9
  have f10 : Exa Z h6 a "java/util/ArrayList" := Exa.wr W9 E0
  have z11 : 0 ≤ h6.size := by rw [Wr.size W9]; exact (Nat.zero_le _)
  have f12 : Fld Z h6 a "java/util/AbstractList" "modCount" "I" (.int (0 : Int32)) := Fld.same W9 F0
  have N13 : Fr 0 _ := Fr.snoc X7 (Fr.nil _) (Nat.zero_le _)
  show Go p e below _ (T5.setTop (mkF m 9 #[.val (.ref a)] []))
  exact Go.ret0 X7 hx hby hlk hret d4_9 (by decide) (by decide) ⟨rfl, rfl, by rw [e8]; exact W9⟩
theorem d3_0 : decode jdk_38_method_2_code 0 = .ok (.aload_n 0, 1) := by decide +kernel
theorem d3_1 : decode jdk_38_method_2_code 1 = .ok (.invokespecial 1, 3) := by decide +kernel
theorem d3_4 : decode jdk_38_method_2_code 4 = .ok (.aload_n 0, 1) := by decide +kernel
theorem d3_5 : decode jdk_38_method_2_code 5 = .ok (.getstatic 39, 3) := by decide +kernel
theorem d3_8 : decode jdk_38_method_2_code 8 = .ok (.putfield 9, 3) := by decide +kernel
theorem d3_11 : decode jdk_38_method_2_code 11 = .ok (.return_, 1) := by decide +kernel
theorem ef_3 (m : MethodId) (x0 : Addr) : entryFrame m #[(.ref x0)] 1 = mkF m 0 #[.val (.ref x0)] [] := by first | (simp [entryFrame, mkF, argsToLocals, Value.category]; done) | rfl
theorem pn_ArrayList : plainName "java/util/ArrayList" = true := by first | (simp [plainName, overriddenIn]; done) | decide +kernel
set_option maxRecDepth 65536 in
set_option maxHeartbeats 40000000 in
theorem rmLI (l : Launch) (Z : State) (a0 : Array Value) (hw : ∀ d ∈ tables_1, d.before a0 Z = true) (a : Addr) (h0 : Heap) (n0 : Nat) (dz : Addr) (ga : n0 ≤ a) (Z0 : n0 ≤ h0.size) (O0 : Old Z n0 h0) (S0 : Sta Z Z.heap "java/util/ArrayList" "DEFAULTCAPACITY_EMPTY_ELEMENTDATA" "[Ljava/lang/Object;" (.ref dz)) (E0 : Exa Z h0 a "java/util/ArrayList") (F1 : Fld Z h0 a "java/util/AbstractList" "modCount" "I" (.int 0)) (F2 : Fld Z h0 a "java/util/ArrayList" "size" "I" (.int 0)) (F3 : Fld Z h0 a "java/util/ArrayList" "elementData" "[Ljava/lang/Object;" .null) :
    Con l Z (⟨"java/util/ArrayList", "<init>", "()V"⟩ : MethodName) jdk_38_method_2_code 1 none [] ({ frames := 3, cells := 0, slots := 0, locals := 36 } : Room) #[(.ref a)] h0 (fun v h L => v = none ∧ Fr n0 L ∧ Keep h0 h [a] ∧ Exa Z h a "java/util/ArrayList" ∧ Fld Z h a "java/util/AbstractList" "modCount" "I" (.int 0) ∧ Fld Z h a "java/util/ArrayList" "size" "I" (.int 0) ∧ Fld Z h a "java/util/ArrayList" "elementData" "[Ljava/lang/Object;" (.ref dz)) := by
  refine Con.of (plainFor_of_name pn_ArrayList) ?_
  intro p e s m below meth c s₁ hx hby hml hown hnm hret hlk hZ X0 e0
  refine Go.cast (ef_3 m a) ?_
  replace hown : s.vm.findClass "java/util/ArrayList" = some m.cls := hown
  refine Go.aloadN (pc' := 1) X0 hx hby d3_0 rfl rfl rfl ?_
  refine Go.callI (pc' := 4) (a := a) (W := 0) (argsL := []) (rest := []) X0 hx hby rfl hZ hown (hw _ (List.mem_of_getElem? (i := 17) rfl)) (hw _ (List.mem_of_getElem? (i := 18) rfl)) (hw _ (List.mem_of_getElem? (i := 21) rfl)) (hw _ (List.mem_of_getElem? (i := 22) rfl)) (by decide) (rmAL l Z a0 hw a h0 E0 F1) e0 (by decide) (by decide) (by rw [hml]; rfl) pd_1 rfl rfl rfl (Nat.le_of_eq rfl) d3_1 rfl (by decide) (by decide) ?_
  rintro r1 T2 L3 X4 ⟨rfl, rfl, W0⟩
  have f5 : Old Z n0 T2.heap := O0.wr W0 ga
  have f6 : Exa Z T2.heap a "java/util/ArrayList" := Exa.wr W0 E0
  have f7 : Fld Z T2.heap a "java/util/ArrayList" "size" "I" (.int 0) := Fld.other W0 F2 (Or.inr (slot_ne (t := .int) (t' := .int) (Or.inl (hw _ (List.mem_of_getElem? (i := 99) rfl))) (Or.inl (hw _ (List.mem_of_getElem? (i := 31) rfl))) (by decide) (by decide) (by decide)))
  have f8 : Fld Z T2.heap a "java/util/ArrayList" "elementData" "[Ljava/lang/Object;" .null := Fld.other W0 F3 (Or.inr (slot_ne (t := (.array (.object "java/lang/Object"))) (t' := .int) (Or.inl (hw _ (List.mem_of_getElem? (i := 34) rfl))) (Or.inl (hw _ (List.mem_of_getElem? (i := 31) rfl))) (by decide) (by decide) (by decide)))
  have z9 : n0 ≤ T2.heap.size := by rw [Wr.size W0]; exact Z0
  have f10 : Fld Z T2.heap a "java/util/AbstractList" "modCount" "I" (.int 0) := Fld.same W0 F1
  have N11 : Fr n0 _ := Fr.snoc X4 (Fr.nil _) ga
  show Go p e below _ (T2.setTop (mkF m 4 #[.val (.ref a)] []))
  refine Go.aloadN (pc' := 5) X4 hx hby d3_4 rfl rfl rfl ?_
  have S1 := Sta.ext f5.2 S0
  refine Go.getSt (pc' := 8) X4 hx hby hZ hown (hw _ (List.mem_of_getElem? (i := 32) rfl)) Via.refl rfl S1 d3_5 rfl ?_
  intro T12 X13 e14
  refine Go.putF (pc' := 11) (ty := (.array (.object "java/lang/Object"))) X13 hx hby hZ hown (hw _ (List.mem_of_getElem? (i := 33) rfl)) Via.refl e14 f8 f6 (Or.inl (hw _ (List.mem_of_getElem? (i := 34) rfl))) (hw _ (List.mem_of_getElem? (i := 12) rfl)) (by decide) rfl rfl d3_8 rfl ?_
  intro T15 h16 X17 e18 W19
  have f20 : Old Z n0 h16 := f5.wr W19 ga
  have f21 : Exa Z h16 a "java/util/ArrayList" := Exa.wr W19 f6
  have f22 : Fld Z h16 a "java/util/AbstractList" "modCount" "I" (.int 0) := Fld.other W19 f10 (Or.inr (slot_ne (t := .int) (t' := (.array (.object "java/lang/Object"))) (Or.inl (hw _ (List.mem_of_getElem? (i := 31) rfl))) (Or.inl (hw _ (List.mem_of_getElem? (i := 34) rfl))) (by decide) (by decide) (by decide)))
  have f23 : Fld Z h16 a "java/util/ArrayList" "size" "I" (.int 0) := Fld.other W19 f7 (Or.inr (slot_ne (t := .int) (t' := (.array (.object "java/lang/Object"))) (Or.inl (hw _ (List.mem_of_getElem? (i := 99) rfl))) (Or.inl (hw _ (List.mem_of_getElem? (i := 34) rfl))) (by decide) (by decide) (by decide)))
  have z24 : n0 ≤ h16.size := by rw [Wr.size W19]; exact z9
  have f25 : Fld Z h16 a "java/util/ArrayList" "elementData" "[Ljava/lang/Object;" (.ref dz) := Fld.same W19 f8
  have N26 : Fr n0 _ := Fr.snoc X17 N11 ga
  show Go p e below _ (T15.setTop (mkF m 11 #[.val (.ref a)] []))
  exact Go.ret0 X17 hx hby hlk hret d3_11 (by decide) (by decide) ⟨rfl, N26, by rw [e18]; exact ((Keep.refl h0 _).wr W0 (Or.inl (List.mem_singleton.mpr rfl))).wr W19 (Or.inl (List.mem_singleton.mpr rfl)), by rw [e18]; exact f21, by rw [e18]; exact f22, by rw [e18]; exact f23, by rw [e18]; exact f25⟩
theorem d6_0 : decode jdk_21_method_3_code 0 = .ok (.aload_n 0, 1) := by decide +kernel
theorem d6_1 : decode jdk_21_method_3_code 1 = .ok (.invokespecial 42, 3) := by decide +kernel
theorem d6_4 : decode jdk_21_method_3_code 4 = .ok (.aload_n 0, 1) := by decide +kernel
theorem d6_5 : decode jdk_21_method_3_code 5 = .ok (.bipush 17, 2) := by decide +kernel
theorem d6_7 : decode jdk_21_method_3_code 7 = .ok (.anewarray 47, 3) := by decide +kernel
theorem d6_10 : decode jdk_21_method_3_code 10 = .ok (.putfield 3, 3) := by decide +kernel
theorem d6_13 : decode jdk_21_method_3_code 13 = .ok (.return_, 1) := by decide +kernel
theorem ef_6 (m : MethodId) (x0 : Addr) : entryFrame m #[(.ref x0)] 1 = mkF m 0 #[.val (.ref x0)] [] := by first | (simp [entryFrame, mkF, argsToLocals, Value.category]; done) | rfl
theorem pn_ArrayDeque : plainName "java/util/ArrayDeque" = true := by first | (simp [plainName, overriddenIn]; done) | decide +kernel
set_option maxRecDepth 65536 in
set_option maxHeartbeats 40000000 in
theorem rmDI (l : Launch) (Z : State) (a0 : Array Value) (hw : ∀ d ∈ tables_1, d.before a0 Z = true) (a : Addr) (h0 : Heap) (n0 : Nat) (ga : n0 ≤ a) (Z0 : n0 ≤ h0.size) (E0 : Exa Z h0 a "java/util/ArrayDeque") (F1 : Fld Z h0 a "java/util/ArrayDeque" "tail" "I" (.int 0)) (F2 : Fld Z h0 a "java/util/ArrayDeque" "head" "I" (.int 0)) (F3 : Fld Z h0 a "java/util/ArrayDeque" "elements" "[Ljava/lang/Object;" .null) :
    Con l Z (⟨"java/util/ArrayDeque", "<init>", "()V"⟩ : MethodName) jdk_21_method_3_code 1 none [] ({ frames := 2, cells := 1, slots := 17, locals := 24 } : Room) #[(.ref a)] h0 (fun v h L => ∃ b, v = none ∧ n0 ≤ b ∧ h0.size ≤ b ∧ Fr n0 L ∧ Keep h0 h [a] ∧ Exa Z h a "java/util/ArrayDeque" ∧ Fld Z h a "java/util/ArrayDeque" "tail" "I" (.int 0) ∧ Fld Z h a "java/util/ArrayDeque" "head" "I" (.int 0) ∧ Fld Z h a "java/util/ArrayDeque" "elements" "[Ljava/lang/Object;" (.ref b) ∧ Ar Z h b (.object "java/lang/Object") 17 (fun _ => .null)) := by
  refine Con.of (plainFor_of_name pn_ArrayDeque) ?_
  intro p e s m below meth c s₁ hx hby hml hown hnm hret hlk hZ X0 e0
  refine Go.cast (ef_6 m a) ?_
  replace hown : s.vm.findClass "java/util/ArrayDeque" = some m.cls := hown
  refine Go.aloadN (pc' := 1) X0 hx hby d6_0 rfl rfl rfl ?_
  refine Go.callI (pc' := 4) (a := a) (W := 0) (argsL := []) (rest := []) X0 hx hby rfl hZ hown (hw _ (List.mem_of_getElem? (i := 43) rfl)) (hw _ (List.mem_of_getElem? (i := 24) rfl)) (hw _ (List.mem_of_getElem? (i := 27) rfl)) (hw _ (List.mem_of_getElem? (i := 28) rfl)) (by decide) (rmAC l Z a0 hw a h0) e0 (by decide) (by decide) (by rw [hml]; rfl) pd_1 rfl rfl rfl (Nat.le_of_eq rfl) d6_1 rfl (by decide) (by decide) ?_
  rintro r1 T2 L3 X4 ⟨rfl, rfl, e1⟩
  rw [List.append_nil] at X4
  show Go p e below _ (T2.setTop (mkF m 4 #[.val (.ref a)] []))
  refine Go.aloadN (pc' := 5) X4 hx hby d6_4 rfl rfl rfl ?_
  refine Go.bipush (pc' := 7) X4 hx hby d6_5 rfl (v := (17 : Int32)) (by decide) ?_
  refine Go.anewarr (C := "java/lang/Object") (pc' := 10) (cap := 17) (z := 17) X4 hx hby hZ hown (hw _ (List.mem_of_getElem? (i := 45) rfl)) (hw _ (List.mem_of_getElem? (i := 46) rfl)) e1 d6_7 rfl (by decide) (by decide) (by decide) (by decide) (by decide) (by decide) ?_
  intro b5 T6 h7 g8 X9 e10 E11 A12 O13
  have n14 : a ≠ b5 := Nat.ne_of_lt (by rw [g8]; exact E0.lt)
  have g15 : n0 ≤ b5 := by rw [g8]; exact Z0
  have f16 : Exa Z h7 a "java/util/ArrayDeque" := Exa.ext E11 E0
  have f17 : Fld Z h7 a "java/util/ArrayDeque" "tail" "I" (.int 0) := Fld.ext E11 F1
  have f18 : Fld Z h7 a "java/util/ArrayDeque" "head" "I" (.int 0) := Fld.ext E11 F2
  have f19 : Fld Z h7 a "java/util/ArrayDeque" "elements" "[Ljava/lang/Object;" .null := Fld.ext E11 F3
  have z20 : n0 ≤ h7.size := Nat.le_trans Z0 E11.1
  have f21 : Ar Z h7 b5 (.object "java/lang/Object") 17 (fun _ => .null) := A12
  have f22 : Ov Z h7 b5 "java/lang/Object" := O13
  show Go p e below _ (T6.setTop (mkF m 10 #[.val (.ref a)] [(.ref b5), (.ref a)]))
  refine Go.putF (pc' := 13) (ty := (.array (.object "java/lang/Object"))) X9 hx hby hZ hown (hw _ (List.mem_of_getElem? (i := 47) rfl)) Via.refl e10 f19 f16 (Or.inl (hw _ (List.mem_of_getElem? (i := 48) rfl))) (hw _ (List.mem_of_getElem? (i := 38) rfl)) (by decide) rfl rfl d6_10 rfl ?_
  intro T23 h24 X25 e26 W27
  have f28 : Exa Z h24 a "java/util/ArrayDeque" := Exa.wr W27 f16
  have f29 : Fld Z h24 a "java/util/ArrayDeque" "tail" "I" (.int 0) := Fld.other W27 f17 (Or.inr (slot_ne (t := .int) (t' := (.array (.object "java/lang/Object"))) (Or.inl (hw _ (List.mem_of_getElem? (i := 83) rfl))) (Or.inl (hw _ (List.mem_of_getElem? (i := 48) rfl))) (by decide) (by decide) (by decide)))
  have f30 : Fld Z h24 a "java/util/ArrayDeque" "head" "I" (.int 0) := Fld.other W27 f18 (Or.inr (slot_ne (t := .int) (t' := (.array (.object "java/lang/Object"))) (Or.inl (hw _ (List.mem_of_getElem? (i := 85) rfl))) (Or.inl (hw _ (List.mem_of_getElem? (i := 48) rfl))) (by decide) (by decide) (by decide)))
  have f31 : Ar Z h24 b5 (.object "java/lang/Object") 17 (fun _ => .null) := f21.other W27 (Ne.symm n14)
  have z32 : n0 ≤ h24.size := by rw [Wr.size W27]; exact z20
  have f33 : Fld Z h24 a "java/util/ArrayDeque" "elements" "[Ljava/lang/Object;" (.ref b5) := Fld.same W27 f19
  have N34 : Fr n0 _ := Fr.snoc X25 (Fr.nil _) ga
  show Go p e below _ (T23.setTop (mkF m 13 #[.val (.ref a)] []))
  exact Go.ret0 X25 hx hby hlk hret d6_13 (by decide) (by decide) ⟨b5, rfl, g15, by rw [g8]; exact Nat.le_refl _, N34, by rw [e26]; exact ((Keep.refl h0 _).ext E11).wr W27 (Or.inl (List.mem_singleton.mpr rfl)), by rw [e26]; exact f28, by rw [e26]; exact f29, by rw [e26]; exact f30, by rw [e26]; exact f33, by rw [e26]; exact f31⟩
theorem d1_0 : decode prog_18_method_1_code 0 = .ok (.aload_n 0, 1) := by decide +kernel
theorem d1_1 : decode prog_18_method_1_code 1 = .ok (.invokespecial 1, 3) := by decide +kernel
theorem d1_4 : decode prog_18_method_1_code 4 = .ok (.aload_n 0, 1) := by decide +kernel
theorem d1_5 : decode prog_18_method_1_code 5 = .ok (.new 7, 3) := by decide +kernel
theorem d1_8 : decode prog_18_method_1_code 8 = .ok (.dup, 1) := by decide +kernel
theorem d1_9 : decode prog_18_method_1_code 9 = .ok (.invokespecial 9, 3) := by decide +kernel
theorem d1_12 : decode prog_18_method_1_code 12 = .ok (.putfield 10, 3) := by decide +kernel
theorem d1_15 : decode prog_18_method_1_code 15 = .ok (.aload_n 0, 1) := by decide +kernel
theorem d1_16 : decode prog_18_method_1_code 16 = .ok (.new 16, 3) := by decide +kernel
theorem d1_19 : decode prog_18_method_1_code 19 = .ok (.dup, 1) := by decide +kernel
theorem d1_20 : decode prog_18_method_1_code 20 = .ok (.invokespecial 18, 3) := by decide +kernel
theorem d1_23 : decode prog_18_method_1_code 23 = .ok (.putfield 19, 3) := by decide +kernel
theorem d1_26 : decode prog_18_method_1_code 26 = .ok (.aload_n 0, 1) := by decide +kernel
theorem d1_27 : decode prog_18_method_1_code 27 = .ok (.new 16, 3) := by decide +kernel
theorem d1_30 : decode prog_18_method_1_code 30 = .ok (.dup, 1) := by decide +kernel
theorem d1_31 : decode prog_18_method_1_code 31 = .ok (.invokespecial 18, 3) := by decide +kernel
theorem d1_34 : decode prog_18_method_1_code 34 = .ok (.putfield 23, 3) := by decide +kernel
theorem d1_37 : decode prog_18_method_1_code 37 = .ok (.aload_n 0, 1) := by decide +kernel
theorem d1_38 : decode prog_18_method_1_code 38 = .ok (.iconst 1, 1) := by decide +kernel
theorem d1_39 : decode prog_18_method_1_code 39 = .ok (.putfield 26, 3) := by decide +kernel
theorem d1_42 : decode prog_18_method_1_code 42 = .ok (.aload_n 0, 1) := by decide +kernel
theorem d1_43 : decode prog_18_method_1_code 43 = .ok (.aload_n 1, 1) := by decide +kernel
theorem d1_44 : decode prog_18_method_1_code 44 = .ok (.putfield 30, 3) := by decide +kernel
theorem d1_47 : decode prog_18_method_1_code 47 = .ok (.return_, 1) := by decide +kernel
theorem ef_1n (m : MethodId) (x0 : Addr) : entryFrame m #[(.ref x0), .null] 2 = mkF m 0 #[.val (.ref x0), .val .null] [] := by first | (simp [entryFrame, mkF, argsToLocals, Value.category]; done) | rfl
theorem pn_WinZipAesKeys : plainName "com/example/minos/minos/io/zip/WinZipAesKeys" = true := by first | (simp [plainName, overriddenIn]; done) | decide +kernel
set_option maxRecDepth 65536 in
set_option maxHeartbeats 40000000 in
theorem rmKn (l : Launch) (Z : State) (a0 : Array Value) (hw : ∀ d ∈ tables_1, d.before a0 Z = true) (a : Addr) (h0 : Heap) (n0 : Nat) (dz : Addr) (ga : n0 ≤ a) (Z0 : n0 ≤ h0.size) (O0 : Old Z n0 h0) (S0 : Sta Z Z.heap "java/util/ArrayList" "DEFAULTCAPACITY_EMPTY_ELEMENTDATA" "[Ljava/lang/Object;" (.ref dz)) (E0 : Exa Z h0 a "com/example/minos/minos/io/zip/WinZipAesKeys") (F1 : Fld Z h0 a "com/example/minos/minos/io/zip/WinZipAesKeys" "pending" "Ljava/util/List;" .null) (F2 : Fld Z h0 a "com/example/minos/minos/io/zip/WinZipAesKeys" "expected" "Ljava/util/Deque;" .null) (F3 : Fld Z h0 a "com/example/minos/minos/io/zip/WinZipAesKeys" "batches" "Ljava/util/Deque;" .null) (F4 : Fld Z h0 a "com/example/minos/minos/io/zip/WinZipAesKeys" "inOrder" "Z" (.int 0)) (F5 : Fld Z h0 a "com/example/minos/minos/io/zip/WinZipAesKeys" "password" "[C" .null) :
    Con l Z (⟨"com/example/minos/minos/io/zip/WinZipAesKeys", "<init>", "([C)V"⟩ : MethodName) prog_18_method_1_code 2 none [] ({ frames := 4, cells := 5, slots := 43, locals := 50 } : Room) #[(.ref a), .null] h0 (fun v h L => ∃ ls de ee, v = none ∧ n0 ≤ ls ∧ n0 ≤ de ∧ ls ≠ a ∧ ls ≠ de ∧ Fr n0 L ∧ Keep h0 h [a] ∧ Exa Z h a "com/example/minos/minos/io/zip/WinZipAesKeys" ∧ Fld Z h a "com/example/minos/minos/io/zip/WinZipAesKeys" "pending" "Ljava/util/List;" (.ref ls) ∧ Fld Z h a "com/example/minos/minos/io/zip/WinZipAesKeys" "expected" "Ljava/util/Deque;" (.ref de) ∧ Fld Z h a "com/example/minos/minos/io/zip/WinZipAesKeys" "inOrder" "Z" (.int 1) ∧ Fld Z h a "com/example/minos/minos/io/zip/WinZipAesKeys" "password" "[C" .null ∧ Exa Z h ls "java/util/ArrayList" ∧ Fld Z h ls "java/util/AbstractList" "modCount" "I" (.int 0) ∧ Fld Z h ls "java/util/ArrayList" "size" "I" (.int 0) ∧ Fld Z h ls "java/util/ArrayList" "elementData" "[Ljava/lang/Object;" (.ref dz) ∧ Exa Z h de "java/util/ArrayDeque" ∧ Fld Z h de "java/util/ArrayDeque" "tail" "I" (.int 0) ∧ Fld Z h de "java/util/ArrayDeque" "head" "I" (.int 0) ∧ Fld Z h de "java/util/ArrayDeque" "elements" "[Ljava/lang/Object;" (.ref ee) ∧ Ar Z h ee (.object "java/lang/Object") 17 (fun _ => .null)) := by
  refine Con.of (plainFor_of_name pn_WinZipAesKeys) ?_
  intro p e s m below meth c s₁ hx hby hml hown hnm hret hlk hZ X0 e0
  refine Go.cast (ef_1n m a) ?_
  replace hown : s.vm.findClass "com/example/minos/minos/io/zip/WinZipAesKeys" = some m.cls := hown
  refine Go.aloadN (pc' := 1) X0 hx hby d1_0 rfl rfl rfl ?_
  refine Go.initO (pc' := 4) (W := 0) X0 hx hby hZ hown (hw _ (List.mem_of_getElem? (i := 8) rfl)) (hw _ (List.mem_of_getElem? (i := 9) rfl)) (hw _ (List.mem_of_getElem? (i := 10) rfl)) e0 (by rw [hml]; rfl) d1_1 rfl (by decide) (Nat.le_of_eq rfl) (by decide) ?_
  intro T1 X2 e3
  refine Go.aloadN (pc' := 5) X2 hx hby d1_4 rfl rfl rfl ?_
  refine Go.new_ (pc' := 8) X2 hx hby hZ hown (hw _ (List.mem_of_getElem? (i := 11) rfl)) (hw _ (List.mem_of_getElem? (i := 12) rfl)) (hw _ (List.mem_of_getElem? (i := 13) rfl)) e3 d1_5 rfl (by decide) (by decide) ?_
  intro b4 T5 h6 g7 X8 e9 E10 A11 D12
  have n13 : a ≠ b4 := Nat.ne_of_lt (by rw [g7]; exact E0.lt)
  have g14 : n0 ≤ b4 := by rw [g7]; exact Z0
  have f15 : Old Z n0 h6 := O0.ext E10
  have f16 : Exa Z h6 a "com/example/minos/minos/io/zip/WinZipAesKeys" := Exa.ext E10 E0
  have f17 : Fld Z h6 a "com/example/minos/minos/io/zip/WinZipAesKeys" "pending" "Ljava/util/List;" .null := Fld.ext E10 F1
  have f18 : Fld Z h6 a "com/example/minos/minos/io/zip/WinZipAesKeys" "expected" "Ljava/util/Deque;" .null := Fld.ext E10 F2
  have f19 : Fld Z h6 a "com/example/minos/minos/io/zip/WinZipAesKeys" "batches" "Ljava/util/Deque;" .null := Fld.ext E10 F3
  have f20 : Fld Z h6 a "com/example/minos/minos/io/zip/WinZipAesKeys" "inOrder" "Z" (.int 0) := Fld.ext E10 F4
  have f21 : Fld Z h6 a "com/example/minos/minos/io/zip/WinZipAesKeys" "password" "[C" .null := Fld.ext E10 F5
  have z22 : n0 ≤ h6.size := Nat.le_trans Z0 E10.1
  have f23 : Exa Z h6 b4 "java/util/ArrayList" := A11
  have f24 : Fld Z h6 b4 "java/util/AbstractList" "modCount" "I" (.int 0) := D12 (Or.inl (hw _ (List.mem_of_getElem? (i := 31) rfl))) (ty := .int) (by decide)
  have f25 : Fld Z h6 b4 "java/util/ArrayList" "size" "I" (.int 0) := D12 (Or.inl (hw _ (List.mem_of_getElem? (i := 99) rfl))) (ty := .int) (by decide)
  have f26 : Fld Z h6 b4 "java/util/ArrayList" "elementData" "[Ljava/lang/Object;" .null := D12 (Or.inl (hw _ (List.mem_of_getElem? (i := 34) rfl))) (ty := (.array (.object "java/lang/Object"))) (by decide)
  show Go p e below _ (T5.setTop (mkF m 8 #[.val (.ref a), .val .null] [(.ref b4), (.ref a)]))
  have K1 : Keep h0 h6 [a] := (Keep.refl h0 _).ext E10
  have hl : h0.size ≤ b4 := by rw [g7]; exact Nat.le_refl _
  refine Go.dup (pc' := 9) X8 hx hby d1_8 rfl rfl ?_
  refine Go.callI (pc' := 12) (a := b4) (W := 2) (argsL := []) (rest := [(.ref b4), (.ref a)]) X8 hx hby rfl hZ hown (hw _ (List.mem_of_getElem? (i := 14) rfl)) (hw _ (List.mem_of_getElem? (i := 15) rfl)) (hw _ (List.mem_of_getElem? (i := 13) rfl)) (hw _ (List.mem_of_getElem? (i := 16) rfl)) (by decide) (rmLI l Z a0 hw b4 h6 n0 dz g14 z22 f15 S0 f23 f24 f25 f26) e9 (by decide) (by decide) (by rw [hml]; rfl) pd_1 rfl rfl rfl (Nat.le_of_eq rfl) d1_9 rfl (by decide) (by decide) ?_
  rintro r27 T28 L29 X30 ⟨rfl, N2, K2, E2, M2, s2, d2⟩
  have f31 : Old Z n0 T28.heap := f15.keep K2 (allS g14 all0)
  have f32 : Exa Z T28.heap a "com/example/minos/minos/io/zip/WinZipAesKeys" := f16.keep K2
  have f33 : Fld Z T28.heap a "com/example/minos/minos/io/zip/WinZipAesKeys" "pending" "Ljava/util/List;" .null := f17.keep K2 (ninS n13 nin0)
  have f34 : Fld Z T28.heap a "com/example/minos/minos/io/zip/WinZipAesKeys" "expected" "Ljava/util/Deque;" .null := f18.keep K2 (ninS n13 nin0)
  have f35 : Fld Z T28.heap a "com/example/minos/minos/io/zip/WinZipAesKeys" "batches" "Ljava/util/Deque;" .null := f19.keep K2 (ninS n13 nin0)
  have f36 : Fld Z T28.heap a "com/example/minos/minos/io/zip/WinZipAesKeys" "inOrder" "Z" (.int 0) := f20.keep K2 (ninS n13 nin0)
  have f37 : Fld Z T28.heap a "com/example/minos/minos/io/zip/WinZipAesKeys" "password" "[C" .null := f21.keep K2 (ninS n13 nin0)
  have f38 : Exa Z T28.heap b4 "java/util/ArrayList" := f23.keep K2
  have z39 : n0 ≤ T28.heap.size := Nat.le_trans z22 K2.1
  have K3 := K1.trans K2 (allS (Or.inr hl) all0)
  show Go p e below _ (T28.setTop (mkF m 12 #[.val (.ref a), .val .null] [(.ref b4), (.ref a)]))
  refine Go.putF (pc' := 15) (ty := (.object "java/util/List")) X30 hx hby hZ hown (hw _ (List.mem_of_getElem? (i := 35) rfl)) Via.refl rfl f33 f32 (Or.inr ⟨(hw _ (List.mem_of_getElem? (i := 36) rfl)), rfl, hnm⟩) (hw _ (List.mem_of_getElem? (i := 3) rfl)) (by decide) rfl rfl d1_12 rfl ?_
  intro T40 h41 X42 e43 W44
  have f45 : Old Z n0 h41 := f31.wr W44 ga
  have f46 : Exa Z h41 a "com/example/minos/minos/io/zip/WinZipAesKeys" := Exa.wr W44 f32
  have f47 : Fld Z h41 a "com/example/minos/minos/io/zip/WinZipAesKeys" "expected" "Ljava/util/Deque;" .null := Fld.other W44 f34 (Or.inr (slot_ne (t := (.object "java/util/Deque")) (t' := (.object "java/util/List")) (Or.inr (hw _ (List.mem_of_getElem? (i := 50) rfl))) (Or.inr (hw _ (List.mem_of_getElem? (i := 36) rfl))) (by decide) (by decide) (by decide)))
  have f48 : Fld Z h41 a "com/example/minos/minos/io/zip/WinZipAesKeys" "batches" "Ljava/util/Deque;" .null := Fld.other W44 f35 (Or.inr (slot_ne (t := (.object "java/util/Deque")) (t' := (.object "java/util/List")) (Or.inr (hw _ (List.mem_of_getElem? (i := 52) rfl))) (Or.inr (hw _ (List.mem_of_getElem? (i := 36) rfl))) (by decide) (by decide) (by decide)))
  have f49 : Fld Z h41 a "com/example/minos/minos/io/zip/WinZipAesKeys" "inOrder" "Z" (.int 0) := Fld.other W44 f36 (Or.inr (slot_ne (t := .boolean) (t' := (.object "java/util/List")) (Or.inl (hw _ (List.mem_of_getElem? (i := 54) rfl))) (Or.inr (hw _ (List.mem_of_getElem? (i := 36) rfl))) (by decide) (by decide) (by decide)))
  have f50 : Fld Z h41 a "com/example/minos/minos/io/zip/WinZipAesKeys" "password" "[C" .null := Fld.other W44 f37 (Or.inr (slot_ne (t := (.array .char)) (t' := (.object "java/util/List")) (Or.inr (hw _ (List.mem_of_getElem? (i := 56) rfl))) (Or.inr (hw _ (List.mem_of_getElem? (i := 36) rfl))) (by decide) (by decide) (by decide)))
  have f51 : Exa Z h41 b4 "java/util/ArrayList" := Exa.wr W44 E2
  have f52 : Fld Z h41 b4 "java/util/AbstractList" "modCount" "I" (.int 0) := Fld.other W44 M2 (Or.inl (Ne.symm n13))
  have f53 : Fld Z h41 b4 "java/util/ArrayList" "size" "I" (.int 0) := Fld.other W44 s2 (Or.inl (Ne.symm n13))
  have f54 : Fld Z h41 b4 "java/util/ArrayList" "elementData" "[Ljava/lang/Object;" (.ref dz) := Fld.other W44 d2 (Or.inl (Ne.symm n13))
  have z55 : n0 ≤ h41.size := by rw [Wr.size W44]; exact z39
  have f56 : Fld Z h41 a "com/example/minos/minos/io/zip/WinZipAesKeys" "pending" "Ljava/util/List;" (.ref b4) := Fld.same W44 f33
  have N57 : Fr n0 _ := Fr.snoc X42 (Fr.app (Fr.nil _) N2) ga
  show Go p e below _ (T40.setTop (mkF m 15 #[.val (.ref a), .val .null] []))
  have K4 := K3.wr W44 (Or.inl (List.mem_singleton.mpr rfl))
  refine Go.aloadN (pc' := 16) X42 hx hby d1_15 rfl rfl rfl ?_
  refine Go.new_ (pc' := 19) X42 hx hby hZ hown (hw _ (List.mem_of_getElem? (i := 37) rfl)) (hw _ (List.mem_of_getElem? (i := 38) rfl)) (hw _ (List.mem_of_getElem? (i := 39) rfl)) e43 d1_16 rfl (by decide) (by decide) ?_
  intro b58 T59 h60 g61 X62 e63 E64 A65 D66
  have n67 : a ≠ b58 := Nat.ne_of_lt (by rw [g61]; exact f46.lt)
  have n68 : b4 ≠ b58 := Nat.ne_of_lt (by rw [g61]; exact f51.lt)
  have g69 : n0 ≤ b58 := by rw [g61]; exact z55
  have f70 : Old Z n0 h60 := f45.ext E64
  have f71 : Exa Z h60 a "com/example/minos/minos/io/zip/WinZipAesKeys" := Exa.ext E64 f46
  have f72 : Fld Z h60 a "com/example/minos/minos/io/zip/WinZipAesKeys" "pending" "Ljava/util/List;" (.ref b4) := Fld.ext E64 f56
  have f73 : Fld Z h60 a "com/example/minos/minos/io/zip/WinZipAesKeys" "expected" "Ljava/util/Deque;" .null := Fld.ext E64 f47
  have f74 : Fld Z h60 a "com/example/minos/minos/io/zip/WinZipAesKeys" "batches" "Ljava/util/Deque;" .null := Fld.ext E64 f48
  have f75 : Fld Z h60 a "com/example/minos/minos/io/zip/WinZipAesKeys" "inOrder" "Z" (.int 0) := Fld.ext E64 f49
  have f76 : Fld Z h60 a "com/example/minos/minos/io/zip/WinZipAesKeys" "password" "[C" .null := Fld.ext E64 f50
  have f77 : Exa Z h60 b4 "java/util/ArrayList" := Exa.ext E64 f51
  have f78 : Fld Z h60 b4 "java/util/AbstractList" "modCount" "I" (.int 0) := Fld.ext E64 f52
  have f79 : Fld Z h60 b4 "java/util/ArrayList" "size" "I" (.int 0) := Fld.ext E64 f53
  have f80 : Fld Z h60 b4 "java/util/ArrayList" "elementData" "[Ljava/lang/Object;" (.ref dz) := Fld.ext E64 f54
  have z81 : n0 ≤ h60.size := Nat.le_trans z55 E64.1
  have f82 : Exa Z h60 b58 "java/util/ArrayDeque" := A65
  have f83 : Fld Z h60 b58 "java/util/ArrayDeque" "tail" "I" (.int 0) := D66 (Or.inl (hw _ (List.mem_of_getElem? (i := 83) rfl))) (ty := .int) (by decide)
  have f84 : Fld Z h60 b58 "java/util/ArrayDeque" "head" "I" (.int 0) := D66 (Or.inl (hw _ (List.mem_of_getElem? (i := 85) rfl))) (ty := .int) (by decide)
  have f85 : Fld Z h60 b58 "java/util/ArrayDeque" "elements" "[Ljava/lang/Object;" .null := D66 (Or.inl (hw _ (List.mem_of_getElem? (i := 48) rfl))) (ty := (.array (.object "java/lang/Object"))) (by decide)
  show Go p e below _ (T59.setTop (mkF m 19 #[.val (.ref a), .val .null] [(.ref b58), (.ref a)]))
  have K5 := K4.ext E64
  have hd4 : h0.size ≤ b58 := by rw [g61]; exact K4.1
  refine Go.dup (pc' := 20) X62 hx hby d1_19 rfl rfl ?_
  refine Go.callI (pc' := 23) (a := b58) (W := 2) (argsL := []) (rest := [(.ref b58), (.ref a)]) X62 hx hby rfl hZ hown (hw _ (List.mem_of_getElem? (i := 40) rfl)) (hw _ (List.mem_of_getElem? (i := 41) rfl)) (hw _ (List.mem_of_getElem? (i := 39) rfl)) (hw _ (List.mem_of_getElem? (i := 42) rfl)) (by decide) (rmDI l Z a0 hw b58 h60 n0 g69 z81 f82 f83 f84 f85) e63 (by decide) (by decide) (by rw [hml]; rfl) pd_1 rfl rfl rfl (Nat.le_of_eq rfl) d1_20 rfl (by decide) (by decide) ?_
  rintro r86 T87 L88 X89 ⟨ee5, rfl, ge5, gf5, N5, Kc5, E5, t5, d5, l5, A5⟩
  have n90 : a ≠ ee5 := Nat.ne_of_lt (Nat.lt_of_lt_of_le f71.lt gf5)
  have n91 : b4 ≠ ee5 := Nat.ne_of_lt (Nat.lt_of_lt_of_le f77.lt gf5)
  have n92 : b58 ≠ ee5 := Nat.ne_of_lt (Nat.lt_of_lt_of_le f82.lt gf5)
  have f93 : Old Z n0 T87.heap := f70.keep Kc5 (allS g69 all0)
  have f94 : Exa Z T87.heap a "com/example/minos/minos/io/zip/WinZipAesKeys" := f71.keep Kc5
  have f95 : Fld Z T87.heap a "com/example/minos/minos/io/zip/WinZipAesKeys" "pending" "Ljava/util/List;" (.ref b4) := f72.keep Kc5 (ninS n67 nin0)
  have f96 : Fld Z T87.heap a "com/example/minos/minos/io/zip/WinZipAesKeys" "expected" "Ljava/util/Deque;" .null := f73.keep Kc5 (ninS n67 nin0)
  have f97 : Fld Z T87.heap a "com/example/minos/minos/io/zip/WinZipAesKeys" "batches" "Ljava/util/Deque;" .null := f74.keep Kc5 (ninS n67 nin0)
  have f98 : Fld Z T87.heap a "com/example/minos/minos/io/zip/WinZipAesKeys" "inOrder" "Z" (.int 0) := f75.keep Kc5 (ninS n67 nin0)
  have f99 : Fld Z T87.heap a "com/example/minos/minos/io/zip/WinZipAesKeys" "password" "[C" .null := f76.keep Kc5 (ninS n67 nin0)
  have f100 : Exa Z T87.heap b4 "java/util/ArrayList" := f77.keep Kc5
  have f101 : Fld Z T87.heap b4 "java/util/AbstractList" "modCount" "I" (.int 0) := f78.keep Kc5 (ninS n68 nin0)
  have f102 : Fld Z T87.heap b4 "java/util/ArrayList" "size" "I" (.int 0) := f79.keep Kc5 (ninS n68 nin0)
  have f103 : Fld Z T87.heap b4 "java/util/ArrayList" "elementData" "[Ljava/lang/Object;" (.ref dz) := f80.keep Kc5 (ninS n68 nin0)
  have f104 : Exa Z T87.heap b58 "java/util/ArrayDeque" := f82.keep Kc5
  have z105 : n0 ≤ T87.heap.size := Nat.le_trans z81 Kc5.1
  have K6 := K5.trans Kc5 (allS (Or.inr hd4) all0)
  show Go p e below _ (T87.setTop (mkF m 23 #[.val (.ref a), .val .null] [(.ref b58), (.ref a)]))
  refine Go.putF (pc' := 26) (ty := (.object "java/util/Deque")) X89 hx hby hZ hown (hw _ (List.mem_of_getElem? (i := 49) rfl)) Via.refl rfl f96 f94 (Or.inr ⟨(hw _ (List.mem_of_getElem? (i := 50) rfl)), rfl, hnm⟩) (hw _ (List.mem_of_getElem? (i := 3) rfl)) (by decide) rfl rfl d1_23 rfl ?_
  intro T106 h107 X108 e109 W110
  have f111 : Old Z n0 h107 := f93.wr W110 ga
  have f112 : Exa Z h107 a "com/example/minos/minos/io/zip/WinZipAesKeys" := Exa.wr W110 f94
  have f113 : Fld Z h107 a "com/example/minos/minos/io/zip/WinZipAesKeys" "pending" "Ljava/util/List;" (.ref b4) := Fld.other W110 f95 (Or.inr (slot_ne (t := (.object "java/util/List")) (t' := (.object "java/util/Deque")) (Or.inr (hw _ (List.mem_of_getElem? (i := 36) rfl))) (Or.inr (hw _ (List.mem_of_getElem? (i := 50) rfl))) (by decide) (by decide) (by decide)))
  have f114 : Fld Z h107 a "com/example/minos/minos/io/zip/WinZipAesKeys" "batches" "Ljava/util/Deque;" .null := Fld.other W110 f97 (Or.inr (slot_ne (t := (.object "java/util/Deque")) (t' := (.object "java/util/Deque")) (Or.inr (hw _ (List.mem_of_getElem? (i := 52) rfl))) (Or.inr (hw _ (List.mem_of_getElem? (i := 50) rfl))) (by decide) (by decide) (by decide)))
  have f115 : Fld Z h107 a "com/example/minos/minos/io/zip/WinZipAesKeys" "inOrder" "Z" (.int 0) := Fld.other W110 f98 (Or.inr (slot_ne (t := .boolean) (t' := (.object "java/util/Deque")) (Or.inl (hw _ (List.mem_of_getElem? (i := 54) rfl))) (Or.inr (hw _ (List.mem_of_getElem? (i := 50) rfl))) (by decide) (by decide) (by decide)))
  have f116 : Fld Z h107 a "com/example/minos/minos/io/zip/WinZipAesKeys" "password" "[C" .null := Fld.other W110 f99 (Or.inr (slot_ne (t := (.array .char)) (t' := (.object "java/util/Deque")) (Or.inr (hw _ (List.mem_of_getElem? (i := 56) rfl))) (Or.inr (hw _ (List.mem_of_getElem? (i := 50) rfl))) (by decide) (by decide) (by decide)))
  have f117 : Exa Z h107 b4 "java/util/ArrayList" := Exa.wr W110 f100
  have f118 : Fld Z h107 b4 "java/util/AbstractList" "modCount" "I" (.int 0) := Fld.other W110 f101 (Or.inl (Ne.symm n13))
  have f119 : Fld Z h107 b4 "java/util/ArrayList" "size" "I" (.int 0) := Fld.other W110 f102 (Or.inl (Ne.symm n13))
  have f120 : Fld Z h107 b4 "java/util/ArrayList" "elementData" "[Ljava/lang/Object;" (.ref dz) := Fld.other W110 f103 (Or.inl (Ne.symm n13))
  have f121 : Exa Z h107 b58 "java/util/ArrayDeque" := Exa.wr W110 E5
  have f122 : Fld Z h107 b58 "java/util/ArrayDeque" "tail" "I" (.int 0) := Fld.other W110 t5 (Or.inl (Ne.symm n67))
  have f123 : Fld Z h107 b58 "java/util/ArrayDeque" "head" "I" (.int 0) := Fld.other W110 d5 (Or.inl (Ne.symm n67))
  have f124 : Fld Z h107 b58 "java/util/ArrayDeque" "elements" "[Ljava/lang/Object;" (.ref ee5) := Fld.other W110 l5 (Or.inl (Ne.symm n67))
  have f125 : Ar Z h107 ee5 (.object "java/lang/Object") 17 (fun _ => .null) := A5.other W110 (Ne.symm n90)
  have z126 : n0 ≤ h107.size := by rw [Wr.size W110]; exact z105
  have f127 : Fld Z h107 a "com/example/minos/minos/io/zip/WinZipAesKeys" "expected" "Ljava/util/Deque;" (.ref b58) := Fld.same W110 f96
  have N128 : Fr n0 _ := Fr.snoc X108 (Fr.app N57 N5) ga
  show Go p e below _ (T106.setTop (mkF m 26 #[.val (.ref a), .val .null] []))
  have K7 := K6.wr W110 (Or.inl (List.mem_singleton.mpr rfl))
  refine Go.aloadN (pc' := 27) X108 hx hby d1_26 rfl rfl rfl ?_
  refine Go.new_ (pc' := 30) X108 hx hby hZ hown (hw _ (List.mem_of_getElem? (i := 37) rfl)) (hw _ (List.mem_of_getElem? (i := 38) rfl)) (hw _ (List.mem_of_getElem? (i := 39) rfl)) e109 d1_27 rfl (by decide) (by decide) ?_
  intro b129 T130 h131 g132 X133 e134 E135 A136 D137
  have n138 : a ≠ b129 := Nat.ne_of_lt (by rw [g132]; exact f112.lt)
  have n139 : b4 ≠ b129 := Nat.ne_of_lt (by rw [g132]; exact f117.lt)
  have n140 : b58 ≠ b129 := Nat.ne_of_lt (by rw [g132]; exact f121.lt)
  have n141 : ee5 ≠ b129 := Nat.ne_of_lt (by rw [g132]; exact f125.lt)
  have g142 : n0 ≤ b129 := by rw [g132]; exact z126
  have f143 : Old Z n0 h131 := f111.ext E135
  have f144 : Exa Z h131 a "com/example/minos/minos/io/zip/WinZipAesKeys" := Exa.ext E135 f112
  have f145 : Fld Z h131 a "com/example/minos/minos/io/zip/WinZipAesKeys" "pending" "Ljava/util/List;" (.ref b4) := Fld.ext E135 f113
  have f146 : Fld Z h131 a "com/example/minos/minos/io/zip/WinZipAesKeys" "expected" "Ljava/util/Deque;" (.ref b58) := Fld.ext E135 f127
  have f147 : Fld Z h131 a "com/example/minos/minos/io/zip/WinZipAesKeys" "batches" "Ljava/util/Deque;" .null := Fld.ext E135 f114
  have f148 : Fld Z h131 a "com/example/minos/minos/io/zip/WinZipAesKeys" "inOrder" "Z" (.int 0) := Fld.ext E135 f115
  have f149 : Fld Z h131 a "com/example/minos/minos/io/zip/WinZipAesKeys" "password" "[C" .null := Fld.ext E135 f116
  have f150 : Exa Z h131 b4 "java/util/ArrayList" := Exa.ext E135 f117
  have f151 : Fld Z h131 b4 "java/util/AbstractList" "modCount" "I" (.int 0) := Fld.ext E135 f118
  have f152 : Fld Z h131 b4 "java/util/ArrayList" "size" "I" (.int 0) := Fld.ext E135 f119
  have f153 : Fld Z h131 b4 "java/util/ArrayList" "elementData" "[Ljava/lang/Object;" (.ref dz) := Fld.ext E135 f120
  have f154 : Exa Z h131 b58 "java/util/ArrayDeque" := Exa.ext E135 f121
  have f155 : Fld Z h131 b58 "java/util/ArrayDeque" "tail" "I" (.int 0) := Fld.ext E135 f122
  have f156 : Fld Z h131 b58 "java/util/ArrayDeque" "head" "I" (.int 0) := Fld.ext E135 f123
  have f157 : Fld Z h131 b58 "java/util/ArrayDeque" "elements" "[Ljava/lang/Object;" (.ref ee5) := Fld.ext E135 f124
  have f158 : Ar Z h131 ee5 (.object "java/lang/Object") 17 (fun _ => .null) := f125.ext E135
  have z159 : n0 ≤ h131.size := Nat.le_trans z126 E135.1
  have f160 : Exa Z h131 b129 "java/util/ArrayDeque" := A136
  have f161 : Fld Z h131 b129 "java/util/ArrayDeque" "tail" "I" (.int 0) := D137 (Or.inl (hw _ (List.mem_of_getElem? (i := 83) rfl))) (ty := .int) (by decide)
  have f162 : Fld Z h131 b129 "java/util/ArrayDeque" "head" "I" (.int 0) := D137 (Or.inl (hw _ (List.mem_of_getElem? (i := 85) rfl))) (ty := .int) (by decide)
  have f163 : Fld Z h131 b129 "java/util/ArrayDeque" "elements" "[Ljava/lang/Object;" .null := D137 (Or.inl (hw _ (List.mem_of_getElem? (i := 48) rfl))) (ty := (.array (.object "java/lang/Object"))) (by decide)
  show Go p e below _ (T130.setTop (mkF m 30 #[.val (.ref a), .val .null] [(.ref b129), (.ref a)]))
  have K8 := K7.ext E135
  have hd7 : h0.size ≤ b129 := by rw [g132]; exact K7.1
  refine Go.dup (pc' := 31) X133 hx hby d1_30 rfl rfl ?_
  refine Go.callI (pc' := 34) (a := b129) (W := 2) (argsL := []) (rest := [(.ref b129), (.ref a)]) X133 hx hby rfl hZ hown (hw _ (List.mem_of_getElem? (i := 40) rfl)) (hw _ (List.mem_of_getElem? (i := 41) rfl)) (hw _ (List.mem_of_getElem? (i := 39) rfl)) (hw _ (List.mem_of_getElem? (i := 42) rfl)) (by decide) (rmDI l Z a0 hw b129 h131 n0 g142 z159 f160 f161 f162 f163) e134 (by decide) (by decide) (by rw [hml]; rfl) pd_1 rfl rfl rfl (Nat.le_of_eq rfl) d1_31 rfl (by decide) (by decide) ?_
  rintro r164 T165 L166 X167 ⟨ee8, rfl, ge8, gf8, N8, Kc8, E8, t8, d8, l8, A8⟩
  have n168 : a ≠ ee8 := Nat.ne_of_lt (Nat.lt_of_lt_of_le f144.lt gf8)
  have n169 : b4 ≠ ee8 := Nat.ne_of_lt (Nat.lt_of_lt_of_le f150.lt gf8)
  have n170 : b58 ≠ ee8 := Nat.ne_of_lt (Nat.lt_of_lt_of_le f154.lt gf8)
  have n171 : ee5 ≠ ee8 := Nat.ne_of_lt (Nat.lt_of_lt_of_le f158.lt gf8)
  have n172 : b129 ≠ ee8 := Nat.ne_of_lt (Nat.lt_of_lt_of_le f160.lt gf8)
  have f173 : Old Z n0 T165.heap := f143.keep Kc8 (allS g142 all0)
  have f174 : Exa Z T165.heap a "com/example/minos/minos/io/zip/WinZipAesKeys" := f144.keep Kc8
  have f175 : Fld Z T165.heap a "com/example/minos/minos/io/zip/WinZipAesKeys" "pending" "Ljava/util/List;" (.ref b4) := f145.keep Kc8 (ninS n138 nin0)
  have f176 : Fld Z T165.heap a "com/example/minos/minos/io/zip/WinZipAesKeys" "expected" "Ljava/util/Deque;" (.ref b58) := f146.keep Kc8 (ninS n138 nin0)
  have f177 : Fld Z T165.heap a "com/example/minos/minos/io/zip/WinZipAesKeys" "batches" "Ljava/util/Deque;" .null := f147.keep Kc8 (ninS n138 nin0)
  have f178 : Fld Z T165.heap a "com/example/minos/minos/io/zip/WinZipAesKeys" "inOrder" "Z" (.int 0) := f148.keep Kc8 (ninS n138 nin0)
  have f179 : Fld Z T165.heap a "com/example/minos/minos/io/zip/WinZipAesKeys" "password" "[C" .null := f149.keep Kc8 (ninS n138 nin0)
  have f180 : Exa Z T165.heap b4 "java/util/ArrayList" := f150.keep Kc8
  have f181 : Fld Z T165.heap b4 "java/util/AbstractList" "modCount" "I" (.int 0) := f151.keep Kc8 (ninS n139 nin0)
  have f182 : Fld Z T165.heap b4 "java/util/ArrayList" "size" "I" (.int 0) := f152.keep Kc8 (ninS n139 nin0)
  have f183 : Fld Z T165.heap b4 "java/util/ArrayList" "elementData" "[Ljava/lang/Object;" (.ref dz) := f153.keep Kc8 (ninS n139 nin0)
  have f184 : Exa Z T165.heap b58 "java/util/ArrayDeque" := f154.keep Kc8
  have f185 : Fld Z T165.heap b58 "java/util/ArrayDeque" "tail" "I" (.int 0) := f155.keep Kc8 (ninS n140 nin0)
  have f186 : Fld Z T165.heap b58 "java/util/ArrayDeque" "head" "I" (.int 0) := f156.keep Kc8 (ninS n140 nin0)
  have f187 : Fld Z T165.heap b58 "java/util/ArrayDeque" "elements" "[Ljava/lang/Object;" (.ref ee5) := f157.keep Kc8 (ninS n140 nin0)
  have f188 : Ar Z T165.heap ee5 (.object "java/lang/Object") 17 (fun _ => .null) := f158.keep Kc8 (ninS n141 nin0)
  have f189 : Exa Z T165.heap b129 "java/util/ArrayDeque" := f160.keep Kc8
  have z190 : n0 ≤ T165.heap.size := Nat.le_trans z159 Kc8.1
  have K9 := K8.trans Kc8 (allS (Or.inr hd7) all0)
  show Go p e below _ (T165.setTop (mkF m 34 #[.val (.ref a), .val .null] [(.ref b129), (.ref a)]))
  refine Go.putF (pc' := 37) (ty := (.object "java/util/Deque")) X167 hx hby hZ hown (hw _ (List.mem_of_getElem? (i := 51) rfl)) Via.refl rfl f177 f174 (Or.inr ⟨(hw _ (List.mem_of_getElem? (i := 52) rfl)), rfl, hnm⟩) (hw _ (List.mem_of_getElem? (i := 3) rfl)) (by decide) rfl rfl d1_34 rfl ?_
  intro T191 h192 X193 e194 W195
  have f196 : Old Z n0 h192 := f173.wr W195 ga
  have f197 : Exa Z h192 a "com/example/minos/minos/io/zip/WinZipAesKeys" := Exa.wr W195 f174
  have f198 : Fld Z h192 a "com/example/minos/minos/io/zip/WinZipAesKeys" "pending" "Ljava/util/List;" (.ref b4) := Fld.other W195 f175 (Or.inr (slot_ne (t := (.object "java/util/List")) (t' := (.object "java/util/Deque")) (Or.inr (hw _ (List.mem_of_getElem? (i := 36) rfl))) (Or.inr (hw _ (List.mem_of_getElem? (i := 52) rfl))) (by decide) (by decide) (by decide)))
  have f199 : Fld Z h192 a "com/example/minos/minos/io/zip/WinZipAesKeys" "expected" "Ljava/util/Deque;" (.ref b58) := Fld.other W195 f176 (Or.inr (slot_ne (t := (.object "java/util/Deque")) (t' := (.object "java/util/Deque")) (Or.inr (hw _ (List.mem_of_getElem? (i := 50) rfl))) (Or.inr (hw _ (List.mem_of_getElem? (i := 52) rfl))) (by decide) (by decide) (by decide)))
  have f200 : Fld Z h192 a "com/example/minos/minos/io/zip/WinZipAesKeys" "inOrder" "Z" (.int 0) := Fld.other W195 f178 (Or.inr (slot_ne (t := .boolean) (t' := (.object "java/util/Deque")) (Or.inl (hw _ (List.mem_of_getElem? (i := 54) rfl))) (Or.inr (hw _ (List.mem_of_getElem? (i := 52) rfl))) (by decide) (by decide) (by decide)))
  have f201 : Fld Z h192 a "com/example/minos/minos/io/zip/WinZipAesKeys" "password" "[C" .null := Fld.other W195 f179 (Or.inr (slot_ne (t := (.array .char)) (t' := (.object "java/util/Deque")) (Or.inr (hw _ (List.mem_of_getElem? (i := 56) rfl))) (Or.inr (hw _ (List.mem_of_getElem? (i := 52) rfl))) (by decide) (by decide) (by decide)))
  have f202 : Exa Z h192 b4 "java/util/ArrayList" := Exa.wr W195 f180
  have f203 : Fld Z h192 b4 "java/util/AbstractList" "modCount" "I" (.int 0) := Fld.other W195 f181 (Or.inl (Ne.symm n13))
  have f204 : Fld Z h192 b4 "java/util/ArrayList" "size" "I" (.int 0) := Fld.other W195 f182 (Or.inl (Ne.symm n13))
  have f205 : Fld Z h192 b4 "java/util/ArrayList" "elementData" "[Ljava/lang/Object;" (.ref dz) := Fld.other W195 f183 (Or.inl (Ne.symm n13))
  have f206 : Exa Z h192 b58 "java/util/ArrayDeque" := Exa.wr W195 f184
  have f207 : Fld Z h192 b58 "java/util/ArrayDeque" "tail" "I" (.int 0) := Fld.other W195 f185 (Or.inl (Ne.symm n67))
  have f208 : Fld Z h192 b58 "java/util/ArrayDeque" "head" "I" (.int 0) := Fld.other W195 f186 (Or.inl (Ne.symm n67))
  have f209 : Fld Z h192 b58 "java/util/ArrayDeque" "elements" "[Ljava/lang/Object;" (.ref ee5) := Fld.other W195 f187 (Or.inl (Ne.symm n67))
  have f210 : Ar Z h192 ee5 (.object "java/lang/Object") 17 (fun _ => .null) := f188.other W195 (Ne.symm n90)
  have f211 : Exa Z h192 b129 "java/util/ArrayDeque" := Exa.wr W195 E8
  have f212 : Fld Z h192 b129 "java/util/ArrayDeque" "tail" "I" (.int 0) := Fld.other W195 t8 (Or.inl (Ne.symm n138))
  have f213 : Fld Z h192 b129 "java/util/ArrayDeque" "head" "I" (.int 0) := Fld.other W195 d8 (Or.inl (Ne.symm n138))
  have f214 : Fld Z h192 b129 "java/util/ArrayDeque" "elements" "[Ljava/lang/Object;" (.ref ee8) := Fld.other W195 l8 (Or.inl (Ne.symm n138))
  have f215 : Ar Z h192 ee8 (.object "java/lang/Object") 17 (fun _ => .null) := A8.other W195 (Ne.symm n168)
  have z216 : n0 ≤ h192.size := by rw [Wr.size W195]; exact z190
  have f217 : Fld Z h192 a "com/example/minos/minos/io/zip/WinZipAesKeys" "batches" "Ljava/util/Deque;" (.ref b129) := Fld.same W195 f177
  have N218 : Fr n0 _ := Fr.snoc X193 (Fr.app N128 N8) ga
  show Go p e below _ (T191.setTop (mkF m 37 #[.val (.ref a), .val .null] []))
  have K10 := K9.wr W195 (Or.inl (List.mem_singleton.mpr rfl))
  refine Go.aloadN (pc' := 38) X193 hx hby d1_37 rfl rfl rfl ?_
  refine Go.iconst (pc' := 39) X193 hx hby d1_38 rfl (v := (1 : Int32)) (by decide) ?_
  refine Go.putF (pc' := 42) (ty := .boolean) X193 hx hby hZ hown (hw _ (List.mem_of_getElem? (i := 53) rfl)) Via.refl e194 f200 f197 (Or.inl (hw _ (List.mem_of_getElem? (i := 54) rfl))) (hw _ (List.mem_of_getElem? (i := 3) rfl)) (by decide) rfl rfl d1_39 rfl ?_
  intro T219 h220 X221 e222 W223
  have f224 : Old Z n0 h220 := f196.wr W223 ga
  have f225 : Exa Z h220 a "com/example/minos/minos/io/zip/WinZipAesKeys" := Exa.wr W223 f197
  have f226 : Fld Z h220 a "com/example/minos/minos/io/zip/WinZipAesKeys" "pending" "Ljava/util/List;" (.ref b4) := Fld.other W223 f198 (Or.inr (slot_ne (t := (.object "java/util/List")) (t' := .boolean) (Or.inr (hw _ (List.mem_of_getElem? (i := 36) rfl))) (Or.inl (hw _ (List.mem_of_getElem? (i := 54) rfl))) (by decide) (by decide) (by decide)))
  have f227 : Fld Z h220 a "com/example/minos/minos/io/zip/WinZipAesKeys" "expected" "Ljava/util/Deque;" (.ref b58) := Fld.other W223 f199 (Or.inr (slot_ne (t := (.object "java/util/Deque")) (t' := .boolean) (Or.inr (hw _ (List.mem_of_getElem? (i := 50) rfl))) (Or.inl (hw _ (List.mem_of_getElem? (i := 54) rfl))) (by decide) (by decide) (by decide)))
  have f228 : Fld Z h220 a "com/example/minos/minos/io/zip/WinZipAesKeys" "batches" "Ljava/util/Deque;" (.ref b129) := Fld.other W223 f217 (Or.inr (slot_ne (t := (.object "java/util/Deque")) (t' := .boolean) (Or.inr (hw _ (List.mem_of_getElem? (i := 52) rfl))) (Or.inl (hw _ (List.mem_of_getElem? (i := 54) rfl))) (by decide) (by decide) (by decide)))
  have f229 : Fld Z h220 a "com/example/minos/minos/io/zip/WinZipAesKeys" "password" "[C" .null := Fld.other W223 f201 (Or.inr (slot_ne (t := (.array .char)) (t' := .boolean) (Or.inr (hw _ (List.mem_of_getElem? (i := 56) rfl))) (Or.inl (hw _ (List.mem_of_getElem? (i := 54) rfl))) (by decide) (by decide) (by decide)))
  have f230 : Exa Z h220 b4 "java/util/ArrayList" := Exa.wr W223 f202
  have f231 : Fld Z h220 b4 "java/util/AbstractList" "modCount" "I" (.int 0) := Fld.other W223 f203 (Or.inl (Ne.symm n13))
  have f232 : Fld Z h220 b4 "java/util/ArrayList" "size" "I" (.int 0) := Fld.other W223 f204 (Or.inl (Ne.symm n13))
  have f233 : Fld Z h220 b4 "java/util/ArrayList" "elementData" "[Ljava/lang/Object;" (.ref dz) := Fld.other W223 f205 (Or.inl (Ne.symm n13))
  have f234 : Exa Z h220 b58 "java/util/ArrayDeque" := Exa.wr W223 f206
  have f235 : Fld Z h220 b58 "java/util/ArrayDeque" "tail" "I" (.int 0) := Fld.other W223 f207 (Or.inl (Ne.symm n67))
  have f236 : Fld Z h220 b58 "java/util/ArrayDeque" "head" "I" (.int 0) := Fld.other W223 f208 (Or.inl (Ne.symm n67))
  have f237 : Fld Z h220 b58 "java/util/ArrayDeque" "elements" "[Ljava/lang/Object;" (.ref ee5) := Fld.other W223 f209 (Or.inl (Ne.symm n67))
  have f238 : Ar Z h220 ee5 (.object "java/lang/Object") 17 (fun _ => .null) := f210.other W223 (Ne.symm n90)
  have f239 : Exa Z h220 b129 "java/util/ArrayDeque" := Exa.wr W223 f211
  have f240 : Fld Z h220 b129 "java/util/ArrayDeque" "tail" "I" (.int 0) := Fld.other W223 f212 (Or.inl (Ne.symm n138))
  have f241 : Fld Z h220 b129 "java/util/ArrayDeque" "head" "I" (.int 0) := Fld.other W223 f213 (Or.inl (Ne.symm n138))
  have f242 : Fld Z h220 b129 "java/util/ArrayDeque" "elements" "[Ljava/lang/Object;" (.ref ee8) := Fld.other W223 f214 (Or.inl (Ne.symm n138))
  have f243 : Ar Z h220 ee8 (.object "java/lang/Object") 17 (fun _ => .null) := f215.other W223 (Ne.symm n168)
  have z244 : n0 ≤ h220.size := by rw [Wr.size W223]; exact z216
  have f245 : Fld Z h220 a "com/example/minos/minos/io/zip/WinZipAesKeys" "inOrder" "Z" (.int (1 : Int32)) := Fld.same W223 f200
  have N246 : Fr n0 _ := Fr.snoc X221 N218 ga
  show Go p e below _ (T219.setTop (mkF m 42 #[.val (.ref a), .val .null] []))
  have K11 := K10.wr W223 (Or.inl (List.mem_singleton.mpr rfl))
  refine Go.aloadN (pc' := 43) X221 hx hby d1_42 rfl rfl rfl ?_
  refine Go.aloadN (pc' := 44) X221 hx hby d1_43 rfl rfl rfl ?_
  refine Go.putF (pc' := 47) (ty := (.array .char)) X221 hx hby hZ hown (hw _ (List.mem_of_getElem? (i := 55) rfl)) Via.refl e222 f229 f225 (Or.inr ⟨(hw _ (List.mem_of_getElem? (i := 56) rfl)), rfl, hnm⟩) (hw _ (List.mem_of_getElem? (i := 3) rfl)) (by decide) rfl rfl d1_44 rfl ?_
  intro T247 h248 X249 e250 W251
  have f252 : Old Z n0 h248 := f224.wr W251 ga
  have f253 : Exa Z h248 a "com/example/minos/minos/io/zip/WinZipAesKeys" := Exa.wr W251 f225
  have f254 : Fld Z h248 a "com/example/minos/minos/io/zip/WinZipAesKeys" "pending" "Ljava/util/List;" (.ref b4) := Fld.other W251 f226 (Or.inr (slot_ne (t := (.object "java/util/List")) (t' := (.array .char)) (Or.inr (hw _ (List.mem_of_getElem? (i := 36) rfl))) (Or.inr (hw _ (List.mem_of_getElem? (i := 56) rfl))) (by decide) (by decide) (by decide)))
  have f255 : Fld Z h248 a "com/example/minos/minos/io/zip/WinZipAesKeys" "expected" "Ljava/util/Deque;" (.ref b58) := Fld.other W251 f227 (Or.inr (slot_ne (t := (.object "java/util/Deque")) (t' := (.array .char)) (Or.inr (hw _ (List.mem_of_getElem? (i := 50) rfl))) (Or.inr (hw _ (List.mem_of_getElem? (i := 56) rfl))) (by decide) (by decide) (by decide)))
  have f256 : Fld Z h248 a "com/example/minos/minos/io/zip/WinZipAesKeys" "batches" "Ljava/util/Deque;" (.ref b129) := Fld.other W251 f228 (Or.inr (slot_ne (t := (.object "java/util/Deque")) (t' := (.array .char)) (Or.inr (hw _ (List.mem_of_getElem? (i := 52) rfl))) (Or.inr (hw _ (List.mem_of_getElem? (i := 56) rfl))) (by decide) (by decide) (by decide)))
  have f257 : Fld Z h248 a "com/example/minos/minos/io/zip/WinZipAesKeys" "inOrder" "Z" (.int (1 : Int32)) := Fld.other W251 f245 (Or.inr (slot_ne (t := .boolean) (t' := (.array .char)) (Or.inl (hw _ (List.mem_of_getElem? (i := 54) rfl))) (Or.inr (hw _ (List.mem_of_getElem? (i := 56) rfl))) (by decide) (by decide) (by decide)))
  have f258 : Exa Z h248 b4 "java/util/ArrayList" := Exa.wr W251 f230
  have f259 : Fld Z h248 b4 "java/util/AbstractList" "modCount" "I" (.int 0) := Fld.other W251 f231 (Or.inl (Ne.symm n13))
  have f260 : Fld Z h248 b4 "java/util/ArrayList" "size" "I" (.int 0) := Fld.other W251 f232 (Or.inl (Ne.symm n13))
  have f261 : Fld Z h248 b4 "java/util/ArrayList" "elementData" "[Ljava/lang/Object;" (.ref dz) := Fld.other W251 f233 (Or.inl (Ne.symm n13))
  have f262 : Exa Z h248 b58 "java/util/ArrayDeque" := Exa.wr W251 f234
  have f263 : Fld Z h248 b58 "java/util/ArrayDeque" "tail" "I" (.int 0) := Fld.other W251 f235 (Or.inl (Ne.symm n67))
  have f264 : Fld Z h248 b58 "java/util/ArrayDeque" "head" "I" (.int 0) := Fld.other W251 f236 (Or.inl (Ne.symm n67))
  have f265 : Fld Z h248 b58 "java/util/ArrayDeque" "elements" "[Ljava/lang/Object;" (.ref ee5) := Fld.other W251 f237 (Or.inl (Ne.symm n67))
  have f266 : Ar Z h248 ee5 (.object "java/lang/Object") 17 (fun _ => .null) := f238.other W251 (Ne.symm n90)
  have f267 : Exa Z h248 b129 "java/util/ArrayDeque" := Exa.wr W251 f239
  have f268 : Fld Z h248 b129 "java/util/ArrayDeque" "tail" "I" (.int 0) := Fld.other W251 f240 (Or.inl (Ne.symm n138))
  have f269 : Fld Z h248 b129 "java/util/ArrayDeque" "head" "I" (.int 0) := Fld.other W251 f241 (Or.inl (Ne.symm n138))
  have f270 : Fld Z h248 b129 "java/util/ArrayDeque" "elements" "[Ljava/lang/Object;" (.ref ee8) := Fld.other W251 f242 (Or.inl (Ne.symm n138))
  have f271 : Ar Z h248 ee8 (.object "java/lang/Object") 17 (fun _ => .null) := f243.other W251 (Ne.symm n168)
  have z272 : n0 ≤ h248.size := by rw [Wr.size W251]; exact z244
  have f273 : Fld Z h248 a "com/example/minos/minos/io/zip/WinZipAesKeys" "password" "[C" .null := Fld.same W251 f229
  have N274 : Fr n0 _ := Fr.snoc X249 N246 ga
  show Go p e below _ (T247.setTop (mkF m 47 #[.val (.ref a), .val .null] []))
  have K12 := K11.wr W251 (Or.inl (List.mem_singleton.mpr rfl))
  exact Go.ret0 X249 hx hby hlk hret d1_47 (by decide) (by decide) ⟨b4, b58, ee5, rfl, g14, g69, (Ne.symm n13), n68, N274, by rw [e250]; exact K12, by rw [e250]; exact f253, by rw [e250]; exact f254, by rw [e250]; exact f255, by rw [e250]; exact f257, by rw [e250]; exact f273, by rw [e250]; exact f258, by rw [e250]; exact f259, by rw [e250]; exact f260, by rw [e250]; exact f261, by rw [e250]; exact f262, by rw [e250]; exact f263, by rw [e250]; exact f264, by rw [e250]; exact f265, by rw [e250]; exact f266⟩
theorem ef_1r (m : MethodId) (x0 : Addr) (x1 : Addr) : entryFrame m #[(.ref x0), (.ref x1)] 2 = mkF m 0 #[.val (.ref x0), .val (.ref x1)] [] := by first | (simp [entryFrame, mkF, argsToLocals, Value.category]; done) | rfl
set_option maxRecDepth 65536 in
set_option maxHeartbeats 40000000 in
theorem rmKr (l : Launch) (Z : State) (a0 : Array Value) (hw : ∀ d ∈ tables_1, d.before a0 Z = true) (a : Addr) (pw : Addr) (h0 : Heap) (n0 : Nat) (dz : Addr) (ga : n0 ≤ a) (Z0 : n0 ≤ h0.size) (O0 : Old Z n0 h0) (S0 : Sta Z Z.heap "java/util/ArrayList" "DEFAULTCAPACITY_EMPTY_ELEMENTDATA" "[Ljava/lang/Object;" (.ref dz)) (E0 : Exa Z h0 a "com/example/minos/minos/io/zip/WinZipAesKeys") (F1 : Fld Z h0 a "com/example/minos/minos/io/zip/WinZipAesKeys" "pending" "Ljava/util/List;" .null) (F2 : Fld Z h0 a "com/example/minos/minos/io/zip/WinZipAesKeys" "expected" "Ljava/util/Deque;" .null) (F3 : Fld Z h0 a "com/example/minos/minos/io/zip/WinZipAesKeys" "batches" "Ljava/util/Deque;" .null) (F4 : Fld Z h0 a "com/example/minos/minos/io/zip/WinZipAesKeys" "inOrder" "Z" (.int 0)) (F5 : Fld Z h0 a "com/example/minos/minos/io/zip/WinZipAesKeys" "password" "[C" .null) :
    Con l Z (⟨"com/example/minos/minos/io/zip/WinZipAesKeys", "<init>", "([C)V"⟩ : MethodName) prog_18_method_1_code 2 none [] ({ frames := 4, cells := 5, slots := 43, locals := 50 } : Room) #[(.ref a), (.ref pw)] h0 (fun v h L => ∃ ls de ee, v = none ∧ n0 ≤ ls ∧ n0 ≤ de ∧ ls ≠ a ∧ ls ≠ de ∧ Fr n0 L ∧ Keep h0 h [a] ∧ Exa Z h a "com/example/minos/minos/io/zip/WinZipAesKeys" ∧ Fld Z h a "com/example/minos/minos/io/zip/WinZipAesKeys" "pending" "Ljava/util/List;" (.ref ls) ∧ Fld Z h a "com/example/minos/minos/io/zip/WinZipAesKeys" "expected" "Ljava/util/Deque;" (.ref de) ∧ Fld Z h a "com/example/minos/minos/io/zip/WinZipAesKeys" "inOrder" "Z" (.int 1) ∧ Fld Z h a "com/example/minos/minos/io/zip/WinZipAesKeys" "password" "[C" (.ref pw) ∧ Exa Z h ls "java/util/ArrayList" ∧ Fld Z h ls "java/util/AbstractList" "modCount" "I" (.int 0) ∧ Fld Z h ls "java/util/ArrayList" "size" "I" (.int 0) ∧ Fld Z h ls "java/util/ArrayList" "elementData" "[Ljava/lang/Object;" (.ref dz) ∧ Exa Z h de "java/util/ArrayDeque" ∧ Fld Z h de "java/util/ArrayDeque" "tail" "I" (.int 0) ∧ Fld Z h de "java/util/ArrayDeque" "head" "I" (.int 0) ∧ Fld Z h de "java/util/ArrayDeque" "elements" "[Ljava/lang/Object;" (.ref ee) ∧ Ar Z h ee (.object "java/lang/Object") 17 (fun _ => .null)) := by
  refine Con.of (plainFor_of_name pn_WinZipAesKeys) ?_
  intro p e s m below meth c s₁ hx hby hml hown hnm hret hlk hZ X0 e0
  refine Go.cast (ef_1r m a pw) ?_
  replace hown : s.vm.findClass "com/example/minos/minos/io/zip/WinZipAesKeys" = some m.cls := hown
  refine Go.aloadN (pc' := 1) X0 hx hby d1_0 rfl rfl rfl ?_
  refine Go.initO (pc' := 4) (W := 0) X0 hx hby hZ hown (hw _ (List.mem_of_getElem? (i := 8) rfl)) (hw _ (List.mem_of_getElem? (i := 9) rfl)) (hw _ (List.mem_of_getElem? (i := 10) rfl)) e0 (by rw [hml]; rfl) d1_1 rfl (by decide) (Nat.le_of_eq rfl) (by decide) ?_
  intro T1 X2 e3
  refine Go.aloadN (pc' := 5) X2 hx hby d1_4 rfl rfl rfl ?_
  refine Go.new_ (pc' := 8) X2 hx hby hZ hown (hw _ (List.mem_of_getElem? (i := 11) rfl)) (hw _ (List.mem_of_getElem? (i := 12) rfl)) (hw _ (List.mem_of_getElem? (i := 13) rfl)) e3 d1_5 rfl (by decide) (by decide) ?_
  intro b4 T5 h6 g7 X8 e9 E10 A11 D12
  have n13 : a ≠ b4 := Nat.ne_of_lt (by rw [g7]; exact E0.lt)
  have g14 : n0 ≤ b4 := by rw [g7]; exact Z0
  have f15 : Old Z n0 h6 := O0.ext E10
  have f16 : Exa Z h6 a "com/example/minos/minos/io/zip/WinZipAesKeys" := Exa.ext E10 E0
  have f17 : Fld Z h6 a "com/example/minos/minos/io/zip/WinZipAesKeys" "pending" "Ljava/util/List;" .null := Fld.ext E10 F1
  have f18 : Fld Z h6 a "com/example/minos/minos/io/zip/WinZipAesKeys" "expected" "Ljava/util/Deque;" .null := Fld.ext E10 F2
  have f19 : Fld Z h6 a "com/example/minos/minos/io/zip/WinZipAesKeys" "batches" "Ljava/util/Deque;" .null := Fld.ext E10 F3
  have f20 : Fld Z h6 a "com/example/minos/minos/io/zip/WinZipAesKeys" "inOrder" "Z" (.int 0) := Fld.ext E10 F4
  have f21 : Fld Z h6 a "com/example/minos/minos/io/zip/WinZipAesKeys" "password" "[C" .null := Fld.ext E10 F5
  have z22 : n0 ≤ h6.size := Nat.le_trans Z0 E10.1
  have f23 : Exa Z h6 b4 "java/util/ArrayList" := A11
  have f24 : Fld Z h6 b4 "java/util/AbstractList" "modCount" "I" (.int 0) := D12 (Or.inl (hw _ (List.mem_of_getElem? (i := 31) rfl))) (ty := .int) (by decide)
  have f25 : Fld Z h6 b4 "java/util/ArrayList" "size" "I" (.int 0) := D12 (Or.inl (hw _ (List.mem_of_getElem? (i := 99) rfl))) (ty := .int) (by decide)
  have f26 : Fld Z h6 b4 "java/util/ArrayList" "elementData" "[Ljava/lang/Object;" .null := D12 (Or.inl (hw _ (List.mem_of_getElem? (i := 34) rfl))) (ty := (.array (.object "java/lang/Object"))) (by decide)
  show Go p e below _ (T5.setTop (mkF m 8 #[.val (.ref a), .val (.ref pw)] [(.ref b4), (.ref a)]))
  have K1 : Keep h0 h6 [a] := (Keep.refl h0 _).ext E10
  have hl : h0.size ≤ b4 := by rw [g7]; exact Nat.le_refl _
  refine Go.dup (pc' := 9) X8 hx hby d1_8 rfl rfl ?_
  refine Go.callI (pc' := 12) (a := b4) (W := 2) (argsL := []) (rest := [(.ref b4), (.ref a)]) X8 hx hby rfl hZ hown (hw _ (List.mem_of_getElem? (i := 14) rfl)) (hw _ (List.mem_of_getElem? (i := 15) rfl)) (hw _ (List.mem_of_getElem? (i := 13) rfl)) (hw _ (List.mem_of_getElem? (i := 16) rfl)) (by decide) (rmLI l Z a0 hw b4 h6 n0 dz g14 z22 f15 S0 f23 f24 f25 f26) e9 (by decide) (by decide) (by rw [hml]; rfl) pd_1 rfl rfl rfl (Nat.le_of_eq rfl) d1_9 rfl (by decide) (by decide) ?_
  rintro r27 T28 L29 X30 ⟨rfl, N2, K2, E2, M2, s2, d2⟩
  have f31 : Old Z n0 T28.heap := f15.keep K2 (allS g14 all0)
  have f32 : Exa Z T28.heap a "com/example/minos/minos/io/zip/WinZipAesKeys" := f16.keep K2
  have f33 : Fld Z T28.heap a "com/example/minos/minos/io/zip/WinZipAesKeys" "pending" "Ljava/util/List;" .null := f17.keep K2 (ninS n13 nin0)
  have f34 : Fld Z T28.heap a "com/example/minos/minos/io/zip/WinZipAesKeys" "expected" "Ljava/util/Deque;" .null := f18.keep K2 (ninS n13 nin0)
  have f35 : Fld Z T28.heap a "com/example/minos/minos/io/zip/WinZipAesKeys" "batches" "Ljava/util/Deque;" .null := f19.keep K2 (ninS n13 nin0)
  have f36 : Fld Z T28.heap a "com/example/minos/minos/io/zip/WinZipAesKeys" "inOrder" "Z" (.int 0) := f20.keep K2 (ninS n13 nin0)
  have f37 : Fld Z T28.heap a "com/example/minos/minos/io/zip/WinZipAesKeys" "password" "[C" .null := f21.keep K2 (ninS n13 nin0)
  have f38 : Exa Z T28.heap b4 "java/util/ArrayList" := f23.keep K2
  have z39 : n0 ≤ T28.heap.size := Nat.le_trans z22 K2.1
  have K3 := K1.trans K2 (allS (Or.inr hl) all0)
  show Go p e below _ (T28.setTop (mkF m 12 #[.val (.ref a), .val (.ref pw)] [(.ref b4), (.ref a)]))
  refine Go.putF (pc' := 15) (ty := (.object "java/util/List")) X30 hx hby hZ hown (hw _ (List.mem_of_getElem? (i := 35) rfl)) Via.refl rfl f33 f32 (Or.inr ⟨(hw _ (List.mem_of_getElem? (i := 36) rfl)), rfl, hnm⟩) (hw _ (List.mem_of_getElem? (i := 3) rfl)) (by decide) rfl rfl d1_12 rfl ?_
  intro T40 h41 X42 e43 W44
  have f45 : Old Z n0 h41 := f31.wr W44 ga
  have f46 : Exa Z h41 a "com/example/minos/minos/io/zip/WinZipAesKeys" := Exa.wr W44 f32
  have f47 : Fld Z h41 a "com/example/minos/minos/io/zip/WinZipAesKeys" "expected" "Ljava/util/Deque;" .null := Fld.other W44 f34 (Or.inr (slot_ne (t := (.object "java/util/Deque")) (t' := (.object "java/util/List")) (Or.inr (hw _ (List.mem_of_getElem? (i := 50) rfl))) (Or.inr (hw _ (List.mem_of_getElem? (i := 36) rfl))) (by decide) (by decide) (by decide)))
  have f48 : Fld Z h41 a "com/example/minos/minos/io/zip/WinZipAesKeys" "batches" "Ljava/util/Deque;" .null := Fld.other W44 f35 (Or.inr (slot_ne (t := (.object "java/util/Deque")) (t' := (.object "java/util/List")) (Or.inr (hw _ (List.mem_of_getElem? (i := 52) rfl))) (Or.inr (hw _ (List.mem_of_getElem? (i := 36) rfl))) (by decide) (by decide) (by decide)))
  have f49 : Fld Z h41 a "com/example/minos/minos/io/zip/WinZipAesKeys" "inOrder" "Z" (.int 0) := Fld.other W44 f36 (Or.inr (slot_ne (t := .boolean) (t' := (.object "java/util/List")) (Or.inl (hw _ (List.mem_of_getElem? (i := 54) rfl))) (Or.inr (hw _ (List.mem_of_getElem? (i := 36) rfl))) (by decide) (by decide) (by decide)))
  have f50 : Fld Z h41 a "com/example/minos/minos/io/zip/WinZipAesKeys" "password" "[C" .null := Fld.other W44 f37 (Or.inr (slot_ne (t := (.array .char)) (t' := (.object "java/util/List")) (Or.inr (hw _ (List.mem_of_getElem? (i := 56) rfl))) (Or.inr (hw _ (List.mem_of_getElem? (i := 36) rfl))) (by decide) (by decide) (by decide)))
  have f51 : Exa Z h41 b4 "java/util/ArrayList" := Exa.wr W44 E2
  have f52 : Fld Z h41 b4 "java/util/AbstractList" "modCount" "I" (.int 0) := Fld.other W44 M2 (Or.inl (Ne.symm n13))
  have f53 : Fld Z h41 b4 "java/util/ArrayList" "size" "I" (.int 0) := Fld.other W44 s2 (Or.inl (Ne.symm n13))
  have f54 : Fld Z h41 b4 "java/util/ArrayList" "elementData" "[Ljava/lang/Object;" (.ref dz) := Fld.other W44 d2 (Or.inl (Ne.symm n13))
  have z55 : n0 ≤ h41.size := by rw [Wr.size W44]; exact z39
  have f56 : Fld Z h41 a "com/example/minos/minos/io/zip/WinZipAesKeys" "pending" "Ljava/util/List;" (.ref b4) := Fld.same W44 f33
  have N57 : Fr n0 _ := Fr.snoc X42 (Fr.app (Fr.nil _) N2) ga
  show Go p e below _ (T40.setTop (mkF m 15 #[.val (.ref a), .val (.ref pw)] []))
  have K4 := K3.wr W44 (Or.inl (List.mem_singleton.mpr rfl))
  refine Go.aloadN (pc' := 16) X42 hx hby d1_15 rfl rfl rfl ?_
  refine Go.new_ (pc' := 19) X42 hx hby hZ hown (hw _ (List.mem_of_getElem? (i := 37) rfl)) (hw _ (List.mem_of_getElem? (i := 38) rfl)) (hw _ (List.mem_of_getElem? (i := 39) rfl)) e43 d1_16 rfl (by decide) (by decide) ?_
  intro b58 T59 h60 g61 X62 e63 E64 A65 D66
  have n67 : a ≠ b58 := Nat.ne_of_lt (by rw [g61]; exact f46.lt)
  have n68 : b4 ≠ b58 := Nat.ne_of_lt (by rw [g61]; exact f51.lt)
  have g69 : n0 ≤ b58 := by rw [g61]; exact z55
  have f70 : Old Z n0 h60 := f45.ext E64
  have f71 : Exa Z h60 a "com/example/minos/minos/io/zip/WinZipAesKeys" := Exa.ext E64 f46
  have f72 : Fld Z h60 a "com/example/minos/minos/io/zip/WinZipAesKeys" "pending" "Ljava/util/List;" (.ref b4) := Fld.ext E64 f56
  have f73 : Fld Z h60 a "com/example/minos/minos/io/zip/WinZipAesKeys" "expected" "Ljava/util/Deque;" .null := Fld.ext E64 f47
  have f74 : Fld Z h60 a "com/example/minos/minos/io/zip/WinZipAesKeys" "batches" "Ljava/util/Deque;" .null := Fld.ext E64 f48
  have f75 : Fld Z h60 a "com/example/minos/minos/io/zip/WinZipAesKeys" "inOrder" "Z" (.int 0) := Fld.ext E64 f49
  have f76 : Fld Z h60 a "com/example/minos/minos/io/zip/WinZipAesKeys" "password" "[C" .null := Fld.ext E64 f50
  have f77 : Exa Z h60 b4 "java/util/ArrayList" := Exa.ext E64 f51
  have f78 : Fld Z h60 b4 "java/util/AbstractList" "modCount" "I" (.int 0) := Fld.ext E64 f52
  have f79 : Fld Z h60 b4 "java/util/ArrayList" "size" "I" (.int 0) := Fld.ext E64 f53
  have f80 : Fld Z h60 b4 "java/util/ArrayList" "elementData" "[Ljava/lang/Object;" (.ref dz) := Fld.ext E64 f54
  have z81 : n0 ≤ h60.size := Nat.le_trans z55 E64.1
  have f82 : Exa Z h60 b58 "java/util/ArrayDeque" := A65
  have f83 : Fld Z h60 b58 "java/util/ArrayDeque" "tail" "I" (.int 0) := D66 (Or.inl (hw _ (List.mem_of_getElem? (i := 83) rfl))) (ty := .int) (by decide)
  have f84 : Fld Z h60 b58 "java/util/ArrayDeque" "head" "I" (.int 0) := D66 (Or.inl (hw _ (List.mem_of_getElem? (i := 85) rfl))) (ty := .int) (by decide)
  have f85 : Fld Z h60 b58 "java/util/ArrayDeque" "elements" "[Ljava/lang/Object;" .null := D66 (Or.inl (hw _ (List.mem_of_getElem? (i := 48) rfl))) (ty := (.array (.object "java/lang/Object"))) (by decide)
  show Go p e below _ (T59.setTop (mkF m 19 #[.val (.ref a), .val (.ref pw)] [(.ref b58), (.ref a)]))
  have K5 := K4.ext E64
  have hd4 : h0.size ≤ b58 := by rw [g61]; exact K4.1
  refine Go.dup (pc' := 20) X62 hx hby d1_19 rfl rfl ?_
  refine Go.callI (pc' := 23) (a := b58) (W := 2) (argsL := []) (rest := [(.ref b58), (.ref a)]) X62 hx hby rfl hZ hown (hw _ (List.mem_of_getElem? (i := 40) rfl)) (hw _ (List.mem_of_getElem? (i := 41) rfl)) (hw _ (List.mem_of_getElem? (i := 39) rfl)) (hw _ (List.mem_of_getElem? (i := 42) rfl)) (by decide) (rmDI l Z a0 hw b58 h60 n0 g69 z81 f82 f83 f84 f85) e63 (by decide) (by decide) (by rw [hml]; rfl) pd_1 rfl rfl rfl (Nat.le_of_eq rfl) d1_20 rfl (by decide) (by decide) ?_
  rintro r86 T87 L88 X89 ⟨ee5, rfl, ge5, gf5, N5, Kc5, E5, t5, d5, l5, A5⟩
  have n90 : a ≠ ee5 := Nat.ne_of_lt (Nat.lt_of_lt_of_le f71.lt gf5)
  have n91 : b4 ≠ ee5 := Nat.ne_of_lt (Nat.lt_of_lt_of_le f77.lt gf5)
  have n92 : b58 ≠ ee5 := Nat.ne_of_lt (Nat.lt_of_lt_of_le f82.lt gf5)
  have f93 : Old Z n0 T87.heap := f70.keep Kc5 (allS g69 all0)
  have f94 : Exa Z T87.heap a "com/example/minos/minos/io/zip/WinZipAesKeys" := f71.keep Kc5
  have f95 : Fld Z T87.heap a "com/example/minos/minos/io/zip/WinZipAesKeys" "pending" "Ljava/util/List;" (.ref b4) := f72.keep Kc5 (ninS n67 nin0)
  have f96 : Fld Z T87.heap a "com/example/minos/minos/io/zip/WinZipAesKeys" "expected" "Ljava/util/Deque;" .null := f73.keep Kc5 (ninS n67 nin0)
  have f97 : Fld Z T87.heap a "com/example/minos/minos/io/zip/WinZipAesKeys" "batches" "Ljava/util/Deque;" .null := f74.keep Kc5 (ninS n67 nin0)
  have f98 : Fld Z T87.heap a "com/example/minos/minos/io/zip/WinZipAesKeys" "inOrder" "Z" (.int 0) := f75.keep Kc5 (ninS n67 nin0)
  have f99 : Fld Z T87.heap a "com/example/minos/minos/io/zip/WinZipAesKeys" "password" "[C" .null := f76.keep Kc5 (ninS n67 nin0)
  have f100 : Exa Z T87.heap b4 "java/util/ArrayList" := f77.keep Kc5
  have f101 : Fld Z T87.heap b4 "java/util/AbstractList" "modCount" "I" (.int 0) := f78.keep Kc5 (ninS n68 nin0)
  have f102 : Fld Z T87.heap b4 "java/util/ArrayList" "size" "I" (.int 0) := f79.keep Kc5 (ninS n68 nin0)
  have f103 : Fld Z T87.heap b4 "java/util/ArrayList" "elementData" "[Ljava/lang/Object;" (.ref dz) := f80.keep Kc5 (ninS n68 nin0)
  have f104 : Exa Z T87.heap b58 "java/util/ArrayDeque" := f82.keep Kc5
  have z105 : n0 ≤ T87.heap.size := Nat.le_trans z81 Kc5.1
  have K6 := K5.trans Kc5 (allS (Or.inr hd4) all0)
  show Go p e below _ (T87.setTop (mkF m 23 #[.val (.ref a), .val (.ref pw)] [(.ref b58), (.ref a)]))
  refine Go.putF (pc' := 26) (ty := (.object "java/util/Deque")) X89 hx hby hZ hown (hw _ (List.mem_of_getElem? (i := 49) rfl)) Via.refl rfl f96 f94 (Or.inr ⟨(hw _ (List.mem_of_getElem? (i := 50) rfl)), rfl, hnm⟩) (hw _ (List.mem_of_getElem? (i := 3) rfl)) (by decide) rfl rfl d1_23 rfl ?_
  intro T106 h107 X108 e109 W110
  have f111 : Old Z n0 h107 := f93.wr W110 ga
  have f112 : Exa Z h107 a "com/example/minos/minos/io/zip/WinZipAesKeys" := Exa.wr W110 f94
  have f113 : Fld Z h107 a "com/example/minos/minos/io/zip/WinZipAesKeys" "pending" "Ljava/util/List;" (.ref b4) := Fld.other W110 f95 (Or.inr (slot_ne (t := (.object "java/util/List")) (t' := (.object "java/util/Deque")) (Or.inr (hw _ (List.mem_of_getElem? (i := 36) rfl))) (Or.inr (hw _ (List.mem_of_getElem? (i := 50) rfl))) (by decide) (by decide) (by decide)))
  have f114 : Fld Z h107 a "com/example/minos/minos/io/zip/WinZipAesKeys" "batches" "Ljava/util/Deque;" .null := Fld.other W110 f97 (Or.inr (slot_ne (t := (.object "java/util/Deque")) (t' := (.object "java/util/Deque")) (Or.inr (hw _ (List.mem_of_getElem? (i := 52) rfl))) (Or.inr (hw _ (List.mem_of_getElem? (i := 50) rfl))) (by decide) (by decide) (by decide)))
  have f115 : Fld Z h107 a "com/example/minos/minos/io/zip/WinZipAesKeys" "inOrder" "Z" (.int 0) := Fld.other W110 f98 (Or.inr (slot_ne (t := .boolean) (t' := (.object "java/util/Deque")) (Or.inl (hw _ (List.mem_of_getElem? (i := 54) rfl))) (Or.inr (hw _ (List.mem_of_getElem? (i := 50) rfl))) (by decide) (by decide) (by decide)))
  have f116 : Fld Z h107 a "com/example/minos/minos/io/zip/WinZipAesKeys" "password" "[C" .null := Fld.other W110 f99 (Or.inr (slot_ne (t := (.array .char)) (t' := (.object "java/util/Deque")) (Or.inr (hw _ (List.mem_of_getElem? (i := 56) rfl))) (Or.inr (hw _ (List.mem_of_getElem? (i := 50) rfl))) (by decide) (by decide) (by decide)))
  have f117 : Exa Z h107 b4 "java/util/ArrayList" := Exa.wr W110 f100
  have f118 : Fld Z h107 b4 "java/util/AbstractList" "modCount" "I" (.int 0) := Fld.other W110 f101 (Or.inl (Ne.symm n13))
  have f119 : Fld Z h107 b4 "java/util/ArrayList" "size" "I" (.int 0) := Fld.other W110 f102 (Or.inl (Ne.symm n13))
  have f120 : Fld Z h107 b4 "java/util/ArrayList" "elementData" "[Ljava/lang/Object;" (.ref dz) := Fld.other W110 f103 (Or.inl (Ne.symm n13))
  have f121 : Exa Z h107 b58 "java/util/ArrayDeque" := Exa.wr W110 E5
  have f122 : Fld Z h107 b58 "java/util/ArrayDeque" "tail" "I" (.int 0) := Fld.other W110 t5 (Or.inl (Ne.symm n67))
  have f123 : Fld Z h107 b58 "java/util/ArrayDeque" "head" "I" (.int 0) := Fld.other W110 d5 (Or.inl (Ne.symm n67))
  have f124 : Fld Z h107 b58 "java/util/ArrayDeque" "elements" "[Ljava/lang/Object;" (.ref ee5) := Fld.other W110 l5 (Or.inl (Ne.symm n67))
  have f125 : Ar Z h107 ee5 (.object "java/lang/Object") 17 (fun _ => .null) := A5.other W110 (Ne.symm n90)
  have z126 : n0 ≤ h107.size := by rw [Wr.size W110]; exact z105
  have f127 : Fld Z h107 a "com/example/minos/minos/io/zip/WinZipAesKeys" "expected" "Ljava/util/Deque;" (.ref b58) := Fld.same W110 f96
  have N128 : Fr n0 _ := Fr.snoc X108 (Fr.app N57 N5) ga
  show Go p e below _ (T106.setTop (mkF m 26 #[.val (.ref a), .val (.ref pw)] []))
  have K7 := K6.wr W110 (Or.inl (List.mem_singleton.mpr rfl))
  refine Go.aloadN (pc' := 27) X108 hx hby d1_26 rfl rfl rfl ?_
  refine Go.new_ (pc' := 30) X108 hx hby hZ hown (hw _ (List.mem_of_getElem? (i := 37) rfl)) (hw _ (List.mem_of_getElem? (i := 38) rfl)) (hw _ (List.mem_of_getElem? (i := 39) rfl)) e109 d1_27 rfl (by decide) (by decide) ?_
  intro b129 T130 h131 g132 X133 e134 E135 A136 D137
  have n138 : a ≠ b129 := Nat.ne_of_lt (by rw [g132]; exact f112.lt)
  have n139 : b4 ≠ b129 := Nat.ne_of_lt (by rw [g132]; exact f117.lt)
  have n140 : b58 ≠ b129 := Nat.ne_of_lt (by rw [g132]; exact f121.lt)
  have n141 : ee5 ≠ b129 := Nat.ne_of_lt (by rw [g132]; exact f125.lt)
  have g142 : n0 ≤ b129 := by rw [g132]; exact z126
  have f143 : Old Z n0 h131 := f111.ext E135
  have f144 : Exa Z h131 a "com/example/minos/minos/io/zip/WinZipAesKeys" := Exa.ext E135 f112
  have f145 : Fld Z h131 a "com/example/minos/minos/io/zip/WinZipAesKeys" "pending" "Ljava/util/List;" (.ref b4) := Fld.ext E135 f113
  have f146 : Fld Z h131 a "com/example/minos/minos/io/zip/WinZipAesKeys" "expected" "Ljava/util/Deque;" (.ref b58) := Fld.ext E135 f127
  have f147 : Fld Z h131 a "com/example/minos/minos/io/zip/WinZipAesKeys" "batches" "Ljava/util/Deque;" .null := Fld.ext E135 f114
  have f148 : Fld Z h131 a "com/example/minos/minos/io/zip/WinZipAesKeys" "inOrder" "Z" (.int 0) := Fld.ext E135 f115
  have f149 : Fld Z h131 a "com/example/minos/minos/io/zip/WinZipAesKeys" "password" "[C" .null := Fld.ext E135 f116
  have f150 : Exa Z h131 b4 "java/util/ArrayList" := Exa.ext E135 f117
  have f151 : Fld Z h131 b4 "java/util/AbstractList" "modCount" "I" (.int 0) := Fld.ext E135 f118
  have f152 : Fld Z h131 b4 "java/util/ArrayList" "size" "I" (.int 0) := Fld.ext E135 f119
  have f153 : Fld Z h131 b4 "java/util/ArrayList" "elementData" "[Ljava/lang/Object;" (.ref dz) := Fld.ext E135 f120
  have f154 : Exa Z h131 b58 "java/util/ArrayDeque" := Exa.ext E135 f121
  have f155 : Fld Z h131 b58 "java/util/ArrayDeque" "tail" "I" (.int 0) := Fld.ext E135 f122
  have f156 : Fld Z h131 b58 "java/util/ArrayDeque" "head" "I" (.int 0) := Fld.ext E135 f123
  have f157 : Fld Z h131 b58 "java/util/ArrayDeque" "elements" "[Ljava/lang/Object;" (.ref ee5) := Fld.ext E135 f124
  have f158 : Ar Z h131 ee5 (.object "java/lang/Object") 17 (fun _ => .null) := f125.ext E135
  have z159 : n0 ≤ h131.size := Nat.le_trans z126 E135.1
  have f160 : Exa Z h131 b129 "java/util/ArrayDeque" := A136
  have f161 : Fld Z h131 b129 "java/util/ArrayDeque" "tail" "I" (.int 0) := D137 (Or.inl (hw _ (List.mem_of_getElem? (i := 83) rfl))) (ty := .int) (by decide)
  have f162 : Fld Z h131 b129 "java/util/ArrayDeque" "head" "I" (.int 0) := D137 (Or.inl (hw _ (List.mem_of_getElem? (i := 85) rfl))) (ty := .int) (by decide)
  have f163 : Fld Z h131 b129 "java/util/ArrayDeque" "elements" "[Ljava/lang/Object;" .null := D137 (Or.inl (hw _ (List.mem_of_getElem? (i := 48) rfl))) (ty := (.array (.object "java/lang/Object"))) (by decide)
  show Go p e below _ (T130.setTop (mkF m 30 #[.val (.ref a), .val (.ref pw)] [(.ref b129), (.ref a)]))
  have K8 := K7.ext E135
  have hd7 : h0.size ≤ b129 := by rw [g132]; exact K7.1
  refine Go.dup (pc' := 31) X133 hx hby d1_30 rfl rfl ?_
  refine Go.callI (pc' := 34) (a := b129) (W := 2) (argsL := []) (rest := [(.ref b129), (.ref a)]) X133 hx hby rfl hZ hown (hw _ (List.mem_of_getElem? (i := 40) rfl)) (hw _ (List.mem_of_getElem? (i := 41) rfl)) (hw _ (List.mem_of_getElem? (i := 39) rfl)) (hw _ (List.mem_of_getElem? (i := 42) rfl)) (by decide) (rmDI l Z a0 hw b129 h131 n0 g142 z159 f160 f161 f162 f163) e134 (by decide) (by decide) (by rw [hml]; rfl) pd_1 rfl rfl rfl (Nat.le_of_eq rfl) d1_31 rfl (by decide) (by decide) ?_
  rintro r164 T165 L166 X167 ⟨ee8, rfl, ge8, gf8, N8, Kc8, E8, t8, d8, l8, A8⟩
  have n168 : a ≠ ee8 := Nat.ne_of_lt (Nat.lt_of_lt_of_le f144.lt gf8)
  have n169 : b4 ≠ ee8 := Nat.ne_of_lt (Nat.lt_of_lt_of_le f150.lt gf8)
  have n170 : b58 ≠ ee8 := Nat.ne_of_lt (Nat.lt_of_lt_of_le f154.lt gf8)
  have n171 : ee5 ≠ ee8 := Nat.ne_of_lt (Nat.lt_of_lt_of_le f158.lt gf8)
  have n172 : b129 ≠ ee8 := Nat.ne_of_lt (Nat.lt_of_lt_of_le f160.lt gf8)
  have f173 : Old Z n0 T165.heap := f143.keep Kc8 (allS g142 all0)
  have f174 : Exa Z T165.heap a "com/example/minos/minos/io/zip/WinZipAesKeys" := f144.keep Kc8
  have f175 : Fld Z T165.heap a "com/example/minos/minos/io/zip/WinZipAesKeys" "pending" "Ljava/util/List;" (.ref b4) := f145.keep Kc8 (ninS n138 nin0)
  have f176 : Fld Z T165.heap a "com/example/minos/minos/io/zip/WinZipAesKeys" "expected" "Ljava/util/Deque;" (.ref b58) := f146.keep Kc8 (ninS n138 nin0)
  have f177 : Fld Z T165.heap a "com/example/minos/minos/io/zip/WinZipAesKeys" "batches" "Ljava/util/Deque;" .null := f147.keep Kc8 (ninS n138 nin0)
  have f178 : Fld Z T165.heap a "com/example/minos/minos/io/zip/WinZipAesKeys" "inOrder" "Z" (.int 0) := f148.keep Kc8 (ninS n138 nin0)
  have f179 : Fld Z T165.heap a "com/example/minos/minos/io/zip/WinZipAesKeys" "password" "[C" .null := f149.keep Kc8 (ninS n138 nin0)
  have f180 : Exa Z T165.heap b4 "java/util/ArrayList" := f150.keep Kc8
  have f181 : Fld Z T165.heap b4 "java/util/AbstractList" "modCount" "I" (.int 0) := f151.keep Kc8 (ninS n139 nin0)
  have f182 : Fld Z T165.heap b4 "java/util/ArrayList" "size" "I" (.int 0) := f152.keep Kc8 (ninS n139 nin0)
  have f183 : Fld Z T165.heap b4 "java/util/ArrayList" "elementData" "[Ljava/lang/Object;" (.ref dz) := f153.keep Kc8 (ninS n139 nin0)
  have f184 : Exa Z T165.heap b58 "java/util/ArrayDeque" := f154.keep Kc8
  have f185 : Fld Z T165.heap b58 "java/util/ArrayDeque" "tail" "I" (.int 0) := f155.keep Kc8 (ninS n140 nin0)
  have f186 : Fld Z T165.heap b58 "java/util/ArrayDeque" "head" "I" (.int 0) := f156.keep Kc8 (ninS n140 nin0)
  have f187 : Fld Z T165.heap b58 "java/util/ArrayDeque" "elements" "[Ljava/lang/Object;" (.ref ee5) := f157.keep Kc8 (ninS n140 nin0)
  have f188 : Ar Z T165.heap ee5 (.object "java/lang/Object") 17 (fun _ => .null) := f158.keep Kc8 (ninS n141 nin0)
  have f189 : Exa Z T165.heap b129 "java/util/ArrayDeque" := f160.keep Kc8
  have z190 : n0 ≤ T165.heap.size := Nat.le_trans z159 Kc8.1
  have K9 := K8.trans Kc8 (allS (Or.inr hd7) all0)
  show Go p e below _ (T165.setTop (mkF m 34 #[.val (.ref a), .val (.ref pw)] [(.ref b129), (.ref a)]))
  refine Go.putF (pc' := 37) (ty := (.object "java/util/Deque")) X167 hx hby hZ hown (hw _ (List.mem_of_getElem? (i := 51) rfl)) Via.refl rfl f177 f174 (Or.inr ⟨(hw _ (List.mem_of_getElem? (i := 52) rfl)), rfl, hnm⟩) (hw _ (List.mem_of_getElem? (i := 3) rfl)) (by decide) rfl rfl d1_34 rfl ?_
  intro T191 h192 X193 e194 W195
  have f196 : Old Z n0 h192 := f173.wr W195 ga
  have f197 : Exa Z h192 a "com/example/minos/minos/io/zip/WinZipAesKeys" := Exa.wr W195 f174
  have f198 : Fld Z h192 a "com/example/minos/minos/io/zip/WinZipAesKeys" "pending" "Ljava/util/List;" (.ref b4) := Fld.other W195 f175 (Or.inr (slot_ne (t := (.object "java/util/List")) (t' := (.object "java/util/Deque")) (Or.inr (hw _ (List.mem_of_getElem? (i := 36) rfl))) (Or.inr (hw _ (List.mem_of_getElem? (i := 52) rfl))) (by decide) (by decide) (by decide)))
  have f199 : Fld Z h192 a "com/example/minos/minos/io/zip/WinZipAesKeys" "expected" "Ljava/util/Deque;" (.ref b58) := Fld.other W195 f176 (Or.inr (slot_ne (t := (.object "java/util/Deque")) (t' := (.object "java/util/Deque")) (Or.inr (hw _ (List.mem_of_getElem? (i := 50) rfl))) (Or.inr (hw _ (List.mem_of_getElem? (i := 52) rfl))) (by decide) (by decide) (by decide)))
  have f200 : Fld Z h192 a "com/example/minos/minos/io/zip/WinZipAesKeys" "inOrder" "Z" (.int 0) := Fld.other W195 f178 (Or.inr (slot_ne (t := .boolean) (t' := (.object "java/util/Deque")) (Or.inl (hw _ (List.mem_of_getElem? (i := 54) rfl))) (Or.inr (hw _ (List.mem_of_getElem? (i := 52) rfl))) (by decide) (by decide) (by decide)))
  have f201 : Fld Z h192 a "com/example/minos/minos/io/zip/WinZipAesKeys" "password" "[C" .null := Fld.other W195 f179 (Or.inr (slot_ne (t := (.array .char)) (t' := (.object "java/util/Deque")) (Or.inr (hw _ (List.mem_of_getElem? (i := 56) rfl))) (Or.inr (hw _ (List.mem_of_getElem? (i := 52) rfl))) (by decide) (by decide) (by decide)))
  have f202 : Exa Z h192 b4 "java/util/ArrayList" := Exa.wr W195 f180
  have f203 : Fld Z h192 b4 "java/util/AbstractList" "modCount" "I" (.int 0) := Fld.other W195 f181 (Or.inl (Ne.symm n13))
  have f204 : Fld Z h192 b4 "java/util/ArrayList" "size" "I" (.int 0) := Fld.other W195 f182 (Or.inl (Ne.symm n13))
  have f205 : Fld Z h192 b4 "java/util/ArrayList" "elementData" "[Ljava/lang/Object;" (.ref dz) := Fld.other W195 f183 (Or.inl (Ne.symm n13))
  have f206 : Exa Z h192 b58 "java/util/ArrayDeque" := Exa.wr W195 f184
  have f207 : Fld Z h192 b58 "java/util/ArrayDeque" "tail" "I" (.int 0) := Fld.other W195 f185 (Or.inl (Ne.symm n67))
  have f208 : Fld Z h192 b58 "java/util/ArrayDeque" "head" "I" (.int 0) := Fld.other W195 f186 (Or.inl (Ne.symm n67))
  have f209 : Fld Z h192 b58 "java/util/ArrayDeque" "elements" "[Ljava/lang/Object;" (.ref ee5) := Fld.other W195 f187 (Or.inl (Ne.symm n67))
  have f210 : Ar Z h192 ee5 (.object "java/lang/Object") 17 (fun _ => .null) := f188.other W195 (Ne.symm n90)
  have f211 : Exa Z h192 b129 "java/util/ArrayDeque" := Exa.wr W195 E8
  have f212 : Fld Z h192 b129 "java/util/ArrayDeque" "tail" "I" (.int 0) := Fld.other W195 t8 (Or.inl (Ne.symm n138))
  have f213 : Fld Z h192 b129 "java/util/ArrayDeque" "head" "I" (.int 0) := Fld.other W195 d8 (Or.inl (Ne.symm n138))
  have f214 : Fld Z h192 b129 "java/util/ArrayDeque" "elements" "[Ljava/lang/Object;" (.ref ee8) := Fld.other W195 l8 (Or.inl (Ne.symm n138))
  have f215 : Ar Z h192 ee8 (.object "java/lang/Object") 17 (fun _ => .null) := A8.other W195 (Ne.symm n168)
  have z216 : n0 ≤ h192.size := by rw [Wr.size W195]; exact z190
  have f217 : Fld Z h192 a "com/example/minos/minos/io/zip/WinZipAesKeys" "batches" "Ljava/util/Deque;" (.ref b129) := Fld.same W195 f177
  have N218 : Fr n0 _ := Fr.snoc X193 (Fr.app N128 N8) ga
  show Go p e below _ (T191.setTop (mkF m 37 #[.val (.ref a), .val (.ref pw)] []))
  have K10 := K9.wr W195 (Or.inl (List.mem_singleton.mpr rfl))
  refine Go.aloadN (pc' := 38) X193 hx hby d1_37 rfl rfl rfl ?_
  refine Go.iconst (pc' := 39) X193 hx hby d1_38 rfl (v := (1 : Int32)) (by decide) ?_
  refine Go.putF (pc' := 42) (ty := .boolean) X193 hx hby hZ hown (hw _ (List.mem_of_getElem? (i := 53) rfl)) Via.refl e194 f200 f197 (Or.inl (hw _ (List.mem_of_getElem? (i := 54) rfl))) (hw _ (List.mem_of_getElem? (i := 3) rfl)) (by decide) rfl rfl d1_39 rfl ?_
  intro T219 h220 X221 e222 W223
  have f224 : Old Z n0 h220 := f196.wr W223 ga
  have f225 : Exa Z h220 a "com/example/minos/minos/io/zip/WinZipAesKeys" := Exa.wr W223 f197
  have f226 : Fld Z h220 a "com/example/minos/minos/io/zip/WinZipAesKeys" "pending" "Ljava/util/List;" (.ref b4) := Fld.other W223 f198 (Or.inr (slot_ne (t := (.object "java/util/List")) (t' := .boolean) (Or.inr (hw _ (List.mem_of_getElem? (i := 36) rfl))) (Or.inl (hw _ (List.mem_of_getElem? (i := 54) rfl))) (by decide) (by decide) (by decide)))
  have f227 : Fld Z h220 a "com/example/minos/minos/io/zip/WinZipAesKeys" "expected" "Ljava/util/Deque;" (.ref b58) := Fld.other W223 f199 (Or.inr (slot_ne (t := (.object "java/util/Deque")) (t' := .boolean) (Or.inr (hw _ (List.mem_of_getElem? (i := 50) rfl))) (Or.inl (hw _ (List.mem_of_getElem? (i := 54) rfl))) (by decide) (by decide) (by decide)))
  have f228 : Fld Z h220 a "com/example/minos/minos/io/zip/WinZipAesKeys" "batches" "Ljava/util/Deque;" (.ref b129) := Fld.other W223 f217 (Or.inr (slot_ne (t := (.object "java/util/Deque")) (t' := .boolean) (Or.inr (hw _ (List.mem_of_getElem? (i := 52) rfl))) (Or.inl (hw _ (List.mem_of_getElem? (i := 54) rfl))) (by decide) (by decide) (by decide)))
  have f229 : Fld Z h220 a "com/example/minos/minos/io/zip/WinZipAesKeys" "password" "[C" .null := Fld.other W223 f201 (Or.inr (slot_ne (t := (.array .char)) (t' := .boolean) (Or.inr (hw _ (List.mem_of_getElem? (i := 56) rfl))) (Or.inl (hw _ (List.mem_of_getElem? (i := 54) rfl))) (by decide) (by decide) (by decide)))
  have f230 : Exa Z h220 b4 "java/util/ArrayList" := Exa.wr W223 f202
  have f231 : Fld Z h220 b4 "java/util/AbstractList" "modCount" "I" (.int 0) := Fld.other W223 f203 (Or.inl (Ne.symm n13))
  have f232 : Fld Z h220 b4 "java/util/ArrayList" "size" "I" (.int 0) := Fld.other W223 f204 (Or.inl (Ne.symm n13))
  have f233 : Fld Z h220 b4 "java/util/ArrayList" "elementData" "[Ljava/lang/Object;" (.ref dz) := Fld.other W223 f205 (Or.inl (Ne.symm n13))
  have f234 : Exa Z h220 b58 "java/util/ArrayDeque" := Exa.wr W223 f206
  have f235 : Fld Z h220 b58 "java/util/ArrayDeque" "tail" "I" (.int 0) := Fld.other W223 f207 (Or.inl (Ne.symm n67))
  have f236 : Fld Z h220 b58 "java/util/ArrayDeque" "head" "I" (.int 0) := Fld.other W223 f208 (Or.inl (Ne.symm n67))
  have f237 : Fld Z h220 b58 "java/util/ArrayDeque" "elements" "[Ljava/lang/Object;" (.ref ee5) := Fld.other W223 f209 (Or.inl (Ne.symm n67))
  have f238 : Ar Z h220 ee5 (.object "java/lang/Object") 17 (fun _ => .null) := f210.other W223 (Ne.symm n90)
  have f239 : Exa Z h220 b129 "java/util/ArrayDeque" := Exa.wr W223 f211
  have f240 : Fld Z h220 b129 "java/util/ArrayDeque" "tail" "I" (.int 0) := Fld.other W223 f212 (Or.inl (Ne.symm n138))
  have f241 : Fld Z h220 b129 "java/util/ArrayDeque" "head" "I" (.int 0) := Fld.other W223 f213 (Or.inl (Ne.symm n138))
  have f242 : Fld Z h220 b129 "java/util/ArrayDeque" "elements" "[Ljava/lang/Object;" (.ref ee8) := Fld.other W223 f214 (Or.inl (Ne.symm n138))
  have f243 : Ar Z h220 ee8 (.object "java/lang/Object") 17 (fun _ => .null) := f215.other W223 (Ne.symm n168)
  have z244 : n0 ≤ h220.size := by rw [Wr.size W223]; exact z216
  have f245 : Fld Z h220 a "com/example/minos/minos/io/zip/WinZipAesKeys" "inOrder" "Z" (.int (1 : Int32)) := Fld.same W223 f200
  have N246 : Fr n0 _ := Fr.snoc X221 N218 ga
  show Go p e below _ (T219.setTop (mkF m 42 #[.val (.ref a), .val (.ref pw)] []))
  have K11 := K10.wr W223 (Or.inl (List.mem_singleton.mpr rfl))
  refine Go.aloadN (pc' := 43) X221 hx hby d1_42 rfl rfl rfl ?_
  refine Go.aloadN (pc' := 44) X221 hx hby d1_43 rfl rfl rfl ?_
  refine Go.putF (pc' := 47) (ty := (.array .char)) X221 hx hby hZ hown (hw _ (List.mem_of_getElem? (i := 55) rfl)) Via.refl e222 f229 f225 (Or.inr ⟨(hw _ (List.mem_of_getElem? (i := 56) rfl)), rfl, hnm⟩) (hw _ (List.mem_of_getElem? (i := 3) rfl)) (by decide) rfl rfl d1_44 rfl ?_
  intro T247 h248 X249 e250 W251
  have f252 : Old Z n0 h248 := f224.wr W251 ga
  have f253 : Exa Z h248 a "com/example/minos/minos/io/zip/WinZipAesKeys" := Exa.wr W251 f225
  have f254 : Fld Z h248 a "com/example/minos/minos/io/zip/WinZipAesKeys" "pending" "Ljava/util/List;" (.ref b4) := Fld.other W251 f226 (Or.inr (slot_ne (t := (.object "java/util/List")) (t' := (.array .char)) (Or.inr (hw _ (List.mem_of_getElem? (i := 36) rfl))) (Or.inr (hw _ (List.mem_of_getElem? (i := 56) rfl))) (by decide) (by decide) (by decide)))
  have f255 : Fld Z h248 a "com/example/minos/minos/io/zip/WinZipAesKeys" "expected" "Ljava/util/Deque;" (.ref b58) := Fld.other W251 f227 (Or.inr (slot_ne (t := (.object "java/util/Deque")) (t' := (.array .char)) (Or.inr (hw _ (List.mem_of_getElem? (i := 50) rfl))) (Or.inr (hw _ (List.mem_of_getElem? (i := 56) rfl))) (by decide) (by decide) (by decide)))
  have f256 : Fld Z h248 a "com/example/minos/minos/io/zip/WinZipAesKeys" "batches" "Ljava/util/Deque;" (.ref b129) := Fld.other W251 f228 (Or.inr (slot_ne (t := (.object "java/util/Deque")) (t' := (.array .char)) (Or.inr (hw _ (List.mem_of_getElem? (i := 52) rfl))) (Or.inr (hw _ (List.mem_of_getElem? (i := 56) rfl))) (by decide) (by decide) (by decide)))
  have f257 : Fld Z h248 a "com/example/minos/minos/io/zip/WinZipAesKeys" "inOrder" "Z" (.int (1 : Int32)) := Fld.other W251 f245 (Or.inr (slot_ne (t := .boolean) (t' := (.array .char)) (Or.inl (hw _ (List.mem_of_getElem? (i := 54) rfl))) (Or.inr (hw _ (List.mem_of_getElem? (i := 56) rfl))) (by decide) (by decide) (by decide)))
  have f258 : Exa Z h248 b4 "java/util/ArrayList" := Exa.wr W251 f230
  have f259 : Fld Z h248 b4 "java/util/AbstractList" "modCount" "I" (.int 0) := Fld.other W251 f231 (Or.inl (Ne.symm n13))
  have f260 : Fld Z h248 b4 "java/util/ArrayList" "size" "I" (.int 0) := Fld.other W251 f232 (Or.inl (Ne.symm n13))
  have f261 : Fld Z h248 b4 "java/util/ArrayList" "elementData" "[Ljava/lang/Object;" (.ref dz) := Fld.other W251 f233 (Or.inl (Ne.symm n13))
  have f262 : Exa Z h248 b58 "java/util/ArrayDeque" := Exa.wr W251 f234
  have f263 : Fld Z h248 b58 "java/util/ArrayDeque" "tail" "I" (.int 0) := Fld.other W251 f235 (Or.inl (Ne.symm n67))
  have f264 : Fld Z h248 b58 "java/util/ArrayDeque" "head" "I" (.int 0) := Fld.other W251 f236 (Or.inl (Ne.symm n67))
  have f265 : Fld Z h248 b58 "java/util/ArrayDeque" "elements" "[Ljava/lang/Object;" (.ref ee5) := Fld.other W251 f237 (Or.inl (Ne.symm n67))
  have f266 : Ar Z h248 ee5 (.object "java/lang/Object") 17 (fun _ => .null) := f238.other W251 (Ne.symm n90)
  have f267 : Exa Z h248 b129 "java/util/ArrayDeque" := Exa.wr W251 f239
  have f268 : Fld Z h248 b129 "java/util/ArrayDeque" "tail" "I" (.int 0) := Fld.other W251 f240 (Or.inl (Ne.symm n138))
  have f269 : Fld Z h248 b129 "java/util/ArrayDeque" "head" "I" (.int 0) := Fld.other W251 f241 (Or.inl (Ne.symm n138))
  have f270 : Fld Z h248 b129 "java/util/ArrayDeque" "elements" "[Ljava/lang/Object;" (.ref ee8) := Fld.other W251 f242 (Or.inl (Ne.symm n138))
  have f271 : Ar Z h248 ee8 (.object "java/lang/Object") 17 (fun _ => .null) := f243.other W251 (Ne.symm n168)
  have z272 : n0 ≤ h248.size := by rw [Wr.size W251]; exact z244
  have f273 : Fld Z h248 a "com/example/minos/minos/io/zip/WinZipAesKeys" "password" "[C" (.ref pw) := Fld.same W251 f229
  have N274 : Fr n0 _ := Fr.snoc X249 N246 ga
  show Go p e below _ (T247.setTop (mkF m 47 #[.val (.ref a), .val (.ref pw)] []))
  have K12 := K11.wr W251 (Or.inl (List.mem_singleton.mpr rfl))
  exact Go.ret0 X249 hx hby hlk hret d1_47 (by decide) (by decide) ⟨b4, b58, ee5, rfl, g14, g69, (Ne.symm n13), n68, N274, by rw [e250]; exact K12, by rw [e250]; exact f253, by rw [e250]; exact f254, by rw [e250]; exact f255, by rw [e250]; exact f257, by rw [e250]; exact f273, by rw [e250]; exact f258, by rw [e250]; exact f259, by rw [e250]; exact f260, by rw [e250]; exact f261, by rw [e250]; exact f262, by rw [e250]; exact f263, by rw [e250]; exact f264, by rw [e250]; exact f265, by rw [e250]; exact f266⟩
theorem d7_0 : decode prog_18_method_4_code 0 = .ok (.aload_n 0, 1) := by decide +kernel
theorem d7_1 : decode prog_18_method_4_code 1 = .ok (.getfield 30, 3) := by decide +kernel
theorem d7_4 : decode prog_18_method_4_code 4 = .ok (.ifnull 14, 3) := by decide +kernel
theorem d7_7 : decode prog_18_method_4_code 7 = .ok (.aload_n 0, 1) := by decide +kernel
theorem d7_8 : decode prog_18_method_4_code 8 = .ok (.getfield 26, 3) := by decide +kernel
theorem d7_11 : decode prog_18_method_4_code 11 = .ok (.ifCond .eq 7, 3) := by decide +kernel
theorem d7_14 : decode prog_18_method_4_code 14 = .ok (.iconst 1, 1) := by decide +kernel
theorem d7_15 : decode prog_18_method_4_code 15 = .ok (.goto 4, 3) := by decide +kernel
theorem d7_18 : decode prog_18_method_4_code 18 = .ok (.iconst 0, 1) := by decide +kernel
theorem d7_19 : decode prog_18_method_4_code 19 = .ok (.ireturn, 1) := by decide +kernel
theorem ef_7 (m : MethodId) (x0 : Addr) : entryFrame m #[(.ref x0)] 1 = mkF m 0 #[.val (.ref x0)] [] := by first | (simp [entryFrame, mkF, argsToLocals, Value.category]; done) | rfl
set_option maxRecDepth 65536 in
set_option maxHeartbeats 40000000 in
theorem rmEn (l : Launch) (Z : State) (a0 : Array Value) (hw : ∀ d ∈ tables_1, d.before a0 Z = true) (a : Addr) (h0 : Heap) (F0 : Fld Z h0 a "com/example/minos/minos/io/zip/WinZipAesKeys" "password" "[C" .null) :
    Con l Z (⟨"com/example/minos/minos/io/zip/WinZipAesKeys", "expectsAhead", "()Z"⟩ : MethodName) prog_18_method_4_code 1 (some .boolean) [] ({ frames := 0, cells := 0, slots := 0, locals := 0 } : Room) #[(.ref a)] h0 (PQ (some (.int 0)) h0) := by
  refine Con.of (plainFor_of_name pn_WinZipAesKeys) ?_
  intro p e s m below meth c s₁ hx hby hml hown hnm hret hlk hZ X0 e0
  refine Go.cast (ef_7 m a) ?_
  replace hown : s.vm.findClass "com/example/minos/minos/io/zip/WinZipAesKeys" = some m.cls := hown
  refine Go.aloadN (pc' := 1) X0 hx hby d7_0 rfl rfl rfl ?_
  refine Go.getF (pc' := 4) X0 hx hby hZ hown (hw _ (List.mem_of_getElem? (i := 55) rfl)) Via.refl e0 F0 d7_1 rfl ?_
  intro T1 X2 e3
  refine Go.ifnullY (pc' := 18) X2 hx hby d7_4 (by decide) (by decide) ?_
  refine Go.iconst (pc' := 19) X2 hx hby d7_18 rfl (v := (0 : Int32)) (by decide) ?_
  exact Go.retZ X2 hx hby hlk hret (by simp) d7_19 (by decide) (by decide) ⟨rfl, rfl, e3⟩
set_option maxRecDepth 65536 in
set_option maxHeartbeats 40000000 in
theorem rmEr (l : Launch) (Z : State) (a0 : Array Value) (hw : ∀ d ∈ tables_1, d.before a0 Z = true) (a : Addr) (h0 : Heap) (pw : Addr) (F0 : Fld Z h0 a "com/example/minos/minos/io/zip/WinZipAesKeys" "password" "[C" (.ref pw)) (F1 : Fld Z h0 a "com/example/minos/minos/io/zip/WinZipAesKeys" "inOrder" "Z" (.int 1)) :
    Con l Z (⟨"com/example/minos/minos/io/zip/WinZipAesKeys", "expectsAhead", "()Z"⟩ : MethodName) prog_18_method_4_code 1 (some .boolean) [] ({ frames := 0, cells := 0, slots := 0, locals := 0 } : Room) #[(.ref a)] h0 (PQ (some (.int 1)) h0) := by
  refine Con.of (plainFor_of_name pn_WinZipAesKeys) ?_
  intro p e s m below meth c s₁ hx hby hml hown hnm hret hlk hZ X0 e0
  refine Go.cast (ef_7 m a) ?_
  replace hown : s.vm.findClass "com/example/minos/minos/io/zip/WinZipAesKeys" = some m.cls := hown
  refine Go.aloadN (pc' := 1) X0 hx hby d7_0 rfl rfl rfl ?_
  refine Go.getF (pc' := 4) X0 hx hby hZ hown (hw _ (List.mem_of_getElem? (i := 55) rfl)) Via.refl e0 F0 d7_1 rfl ?_
  intro T1 X2 e3
  refine Go.ifnullN (pc' := 7) X2 hx hby d7_4 rfl ?_
  refine Go.aloadN (pc' := 8) X2 hx hby d7_7 rfl rfl rfl ?_
  refine Go.getF (pc' := 11) X2 hx hby hZ hown (hw _ (List.mem_of_getElem? (i := 53) rfl)) Via.refl e3 F1 d7_8 rfl ?_
  intro T4 X5 e6
  refine Go.ifN (pc' := 14) X5 hx hby d7_11 rfl (show ¬ ((1 : Int32) = 0) from by decide) ?_
  refine Go.iconst (pc' := 15) X5 hx hby d7_14 rfl (v := (1 : Int32)) (by decide) ?_
  refine Go.goto (pc' := 19) X5 hx hby d7_15 (by decide) (by decide) ?_
  exact Go.retZ X5 hx hby hlk hret (by simp) d7_19 (by decide) (by decide) ⟨rfl, rfl, e6⟩
theorem d18_0 : decode jdk_29_method_65_code 0 = .ok (.iload_n 0, 1) := by decide +kernel
theorem d18_1 : decode jdk_29_method_65_code 1 = .ok (.iload_n 1, 1) := by decide +kernel
theorem d18_2 : decode jdk_29_method_65_code 2 = .ok (.if_icmp .lt 7, 3) := by decide +kernel
theorem d18_5 : decode jdk_29_method_65_code 5 = .ok (.iload_n 0, 1) := by decide +kernel
theorem d18_6 : decode jdk_29_method_65_code 6 = .ok (.goto 4, 3) := by decide +kernel
theorem d18_9 : decode jdk_29_method_65_code 9 = .ok (.iload_n 1, 1) := by decide +kernel
theorem d18_10 : decode jdk_29_method_65_code 10 = .ok (.ireturn, 1) := by decide +kernel
theorem ef_18 (m : MethodId) (x0 : Int32) (x1 : Int32) : entryFrame m #[(.int x0), (.int x1)] 2 = mkF m 0 #[.val (.int x0), .val (.int x1)] [] := by first | (simp [entryFrame, mkF, argsToLocals, Value.category]; done) | rfl
set_option maxRecDepth 65536 in
set_option maxHeartbeats 40000000 in
theorem rmX (l : Launch) (Z : State) (a0 : Array Value) (hw : ∀ d ∈ tables_1, d.before a0 Z = true) (x0 : Int32) (x1 : Int32) (h0 : Heap) :
    Con l Z (⟨"java/lang/Math", "max", "(II)I"⟩ : MethodName) jdk_29_method_65_code 2 (some .int) [] ({ frames := 0, cells := 0, slots := 0, locals := 0 } : Room) #[(.int x0), (.int x1)] h0 (PQ (some (.int (own_max x0 x1))) h0) := by
  refine Con.of (Jvm.Free.JP.mathPlain rfl (by decide +kernel)) ?_
  intro p e s m below meth c s₁ hx hby hml hown hnm hret hlk hZ X0 e0
  refine Go.cast (ef_18 m x0 x1) ?_
  replace hown : s.vm.findClass "java/lang/Math" = some m.cls := hown
  refine Go.iloadN (pc' := 1) X0 hx hby d18_0 rfl rfl ?_
  refine Go.iloadN (pc' := 2) X0 hx hby d18_1 rfl rfl ?_
  refine Go.icmp (pc' := 9) (pn := 5) X0 hx hby d18_2 (by decide) (by decide) rfl (fun (c1 : x0 < x1) => ?_) (fun (c1 : ¬ (x0 < x1)) => ?_)
  ·
    refine Go.iloadN (pc' := 10) X0 hx hby d18_9 rfl rfl ?_
    exact Go.retI X0 hx hby hlk hret d18_10 (by decide) (by decide) ⟨by simp [own_max, c1], rfl, e0⟩
  ·
    refine Go.iloadN (pc' := 6) X0 hx hby d18_5 rfl rfl ?_
    refine Go.goto (pc' := 10) X0 hx hby d18_6 (by decide) (by decide) ?_
    exact Go.retI X0 hx hby hlk hret d18_10 (by decide) (by decide) ⟨by simp [own_max, c1], rfl, e0⟩
theorem d13_0 : decode prog_20_method_1_code 0 = .ok (.aload_n 0, 1) := by decide +kernel
theorem d13_1 : decode prog_20_method_1_code 1 = .ok (.invokespecial 1, 3) := by decide +kernel
theorem d13_4 : decode prog_20_method_1_code 4 = .ok (.aload_n 0, 1) := by decide +kernel
theorem d13_5 : decode prog_20_method_1_code 5 = .ok (.iload_n 1, 1) := by decide +kernel
theorem d13_6 : decode prog_20_method_1_code 6 = .ok (.putfield 7, 3) := by decide +kernel
theorem d13_9 : decode prog_20_method_1_code 9 = .ok (.aload_n 0, 1) := by decide +kernel
theorem d13_10 : decode prog_20_method_1_code 10 = .ok (.aload_n 2, 1) := by decide +kernel
theorem d13_11 : decode prog_20_method_1_code 11 = .ok (.putfield 13, 3) := by decide +kernel
theorem d13_14 : decode prog_20_method_1_code 14 = .ok (.return_, 1) := by decide +kernel
theorem ef_13 (m : MethodId) (x0 : Addr) (x1 : Int32) (x2 : Addr) : entryFrame m #[(.ref x0), (.int x1), (.ref x2)] 3 = mkF m 0 #[.val (.ref x0), .val (.int x1), .val (.ref x2)] [] := by first | (simp [entryFrame, mkF, argsToLocals, Value.category]; done) | rfl
theorem pn_WinZipAesKeys_Expected : plainName "com/example/minos/minos/io/zip/WinZipAesKeys$Expected" = true := by first | (simp [plainName, overriddenIn]; done) | decide +kernel
set_option maxRecDepth 65536 in
set_option maxHeartbeats 40000000 in
theorem rmXI (l : Launch) (Z : State) (a0 : Array Value) (hw : ∀ d ∈ tables_1, d.before a0 Z = true) (a : Addr) (x1 : Int32) (sa : Addr) (h0 : Heap) (n0 : Nat) (ga : n0 ≤ a) (Z0 : n0 ≤ h0.size) (E0 : Exa Z h0 a "com/example/minos/minos/io/zip/WinZipAesKeys$Expected") (F1 : Fld Z h0 a "com/example/minos/minos/io/zip/WinZipAesKeys$Expected" "strength" "I" (.int 0)) (F2 : Fld Z h0 a "com/example/minos/minos/io/zip/WinZipAesKeys$Expected" "salt" "[B" .null) :
    Con l Z (⟨"com/example/minos/minos/io/zip/WinZipAesKeys$Expected", "<init>", "(I[B)V"⟩ : MethodName) prog_20_method_1_code 3 none [] ({ frames := 1, cells := 0, slots := 0, locals := 12 } : Room) #[(.ref a), (.int x1), (.ref sa)] h0 (fun v h L => v = none ∧ Fr n0 L ∧ Keep h0 h [a] ∧ Exa Z h a "com/example/minos/minos/io/zip/WinZipAesKeys$Expected") := by
  refine Con.of (plainFor_of_name pn_WinZipAesKeys_Expected) ?_
  intro p e s m below meth c s₁ hx hby hml hown hnm hret hlk hZ X0 e0
  refine Go.cast (ef_13 m a x1 sa) ?_
  replace hown : s.vm.findClass "com/example/minos/minos/io/zip/WinZipAesKeys$Expected" = some m.cls := hown
  refine Go.aloadN (pc' := 1) X0 hx hby d13_0 rfl rfl rfl ?_
  refine Go.initO (pc' := 4) (W := 0) X0 hx hby hZ hown (hw _ (List.mem_of_getElem? (i := 107) rfl)) (hw _ (List.mem_of_getElem? (i := 9) rfl)) (hw _ (List.mem_of_getElem? (i := 10) rfl)) e0 (by rw [hml]; rfl) d13_1 rfl (by decide) (Nat.le_of_eq rfl) (by decide) ?_
  intro T1 X2 e3
  refine Go.aloadN (pc' := 5) X2 hx hby d13_4 rfl rfl rfl ?_
  refine Go.iloadN (pc' := 6) X2 hx hby d13_5 rfl rfl ?_
  refine Go.putF (pc' := 9) (ty := .int) X2 hx hby hZ hown (hw _ (List.mem_of_getElem? (i := 108) rfl)) Via.refl e3 F1 E0 (Or.inr ⟨(hw _ (List.mem_of_getElem? (i := 109) rfl)), rfl, hnm⟩) (hw _ (List.mem_of_getElem? (i := 102) rfl)) (by decide) rfl rfl d13_6 rfl ?_
  intro T4 h5 X6 e7 W8
  have f9 : Exa Z h5 a "com/example/minos/minos/io/zip/WinZipAesKeys$Expected" := Exa.wr W8 E0
  have f10 : Fld Z h5 a "com/example/minos/minos/io/zip/WinZipAesKeys$Expected" "salt" "[B" .null := Fld.other W8 F2 (Or.inr (slot_ne (t := (.array .byte)) (t' := .int) (Or.inr (hw _ (List.mem_of_getElem? (i := 111) rfl))) (Or.inr (hw _ (List.mem_of_getElem? (i := 109) rfl))) (by decide) (by decide) (by decide)))
  have z11 : n0 ≤ h5.size := by rw [Wr.size W8]; exact Z0
  have f12 : Fld Z h5 a "com/example/minos/minos/io/zip/WinZipAesKeys$Expected" "strength" "I" (.int x1) := Fld.same W8 F1
  have N13 : Fr n0 _ := Fr.snoc X6 (Fr.nil _) ga
  show Go p e below _ (T4.setTop (mkF m 9 #[.val (.ref a), .val (.int x1), .val (.ref sa)] []))
  refine Go.aloadN (pc' := 10) X6 hx hby d13_9 rfl rfl rfl ?_
  refine Go.aloadN (pc' := 11) X6 hx hby d13_10 rfl rfl rfl ?_
  refine Go.putF (pc' := 14) (ty := (.array .byte)) X6 hx hby hZ hown (hw _ (List.mem_of_getElem? (i := 110) rfl)) Via.refl e7 f10 f9 (Or.inr ⟨(hw _ (List.mem_of_getElem? (i := 111) rfl)), rfl, hnm⟩) (hw _ (List.mem_of_getElem? (i := 102) rfl)) (by decide) rfl rfl d13_11 rfl ?_
  intro T14 h15 X16 e17 W18
  have f19 : Exa Z h15 a "com/example/minos/minos/io/zip/WinZipAesKeys$Expected" := Exa.wr W18 f9
  have f20 : Fld Z h15 a "com/example/minos/minos/io/zip/WinZipAesKeys$Expected" "strength" "I" (.int x1) := Fld.other W18 f12 (Or.inr (slot_ne (t := .int) (t' := (.array .byte)) (Or.inr (hw _ (List.mem_of_getElem? (i := 109) rfl))) (Or.inr (hw _ (List.mem_of_getElem? (i := 111) rfl))) (by decide) (by decide) (by decide)))
  have z21 : n0 ≤ h15.size := by rw [Wr.size W18]; exact z11
  have f22 : Fld Z h15 a "com/example/minos/minos/io/zip/WinZipAesKeys$Expected" "salt" "[B" (.ref sa) := Fld.same W18 f10
  have N23 : Fr n0 _ := Fr.snoc X16 N13 ga
  show Go p e below _ (T14.setTop (mkF m 14 #[.val (.ref a), .val (.int x1), .val (.ref sa)] []))
  exact Go.ret0 X16 hx hby hlk hret d13_14 (by decide) (by decide) ⟨rfl, N23, by rw [e17]; exact ((Keep.refl h0 _).wr W8 (Or.inl (List.mem_singleton.mpr rfl))).wr W18 (Or.inl (List.mem_singleton.mpr rfl)), by rw [e17]; exact f19⟩
theorem d17_0 : decode jdk_38_method_6_code 0 = .ok (.aload_n 0, 1) := by decide +kernel
theorem d17_1 : decode jdk_38_method_6_code 1 = .ok (.getfield 9, 3) := by decide +kernel
theorem d17_4 : decode jdk_38_method_6_code 4 = .ok (.arraylength, 1) := by decide +kernel
theorem d17_5 : decode jdk_38_method_6_code 5 = .ok (.istore_n 2, 1) := by decide +kernel
theorem d17_6 : decode jdk_38_method_6_code 6 = .ok (.iload_n 2, 1) := by decide +kernel
theorem d17_7 : decode jdk_38_method_6_code 7 = .ok (.ifCond .gt 13, 3) := by decide +kernel
theorem d17_10 : decode jdk_38_method_6_code 10 = .ok (.aload_n 0, 1) := by decide +kernel
theorem d17_11 : decode jdk_38_method_6_code 11 = .ok (.getfield 9, 3) := by decide +kernel
theorem d17_14 : decode jdk_38_method_6_code 14 = .ok (.getstatic 39, 3) := by decide +kernel
theorem d17_17 : decode jdk_38_method_6_code 17 = .ok (.if_acmp .eq 28, 3) := by decide +kernel
theorem d17_20 : decode jdk_38_method_6_code 20 = .ok (.iload_n 2, 1) := by decide +kernel
theorem d17_21 : decode jdk_38_method_6_code 21 = .ok (.iload_n 1, 1) := by decide +kernel
theorem d17_22 : decode jdk_38_method_6_code 22 = .ok (.iload_n 2, 1) := by decide +kernel
theorem d17_23 : decode jdk_38_method_6_code 23 = .ok (.isub, 1) := by decide +kernel
theorem d17_24 : decode jdk_38_method_6_code 24 = .ok (.iload_n 2, 1) := by decide +kernel
theorem d17_25 : decode jdk_38_method_6_code 25 = .ok (.iconst 1, 1) := by decide +kernel
theorem d17_26 : decode jdk_38_method_6_code 26 = .ok (.ishr, 1) := by decide +kernel
theorem d17_27 : decode jdk_38_method_6_code 27 = .ok (.invokestatic 73, 3) := by decide +kernel
theorem d17_30 : decode jdk_38_method_6_code 30 = .ok (.istore_n 3, 1) := by decide +kernel
theorem d17_31 : decode jdk_38_method_6_code 31 = .ok (.aload_n 0, 1) := by decide +kernel
theorem d17_32 : decode jdk_38_method_6_code 32 = .ok (.aload_n 0, 1) := by decide +kernel
theorem d17_33 : decode jdk_38_method_6_code 33 = .ok (.getfield 9, 3) := by decide +kernel
theorem d17_36 : decode jdk_38_method_6_code 36 = .ok (.iload_n 3, 1) := by decide +kernel
theorem d17_37 : decode jdk_38_method_6_code 37 = .ok (.invokestatic 66, 3) := by decide +kernel
theorem d17_40 : decode jdk_38_method_6_code 40 = .ok (.dup_x1, 1) := by decide +kernel
theorem d17_41 : decode jdk_38_method_6_code 41 = .ok (.putfield 9, 3) := by decide +kernel
theorem d17_44 : decode jdk_38_method_6_code 44 = .ok (.areturn, 1) := by decide +kernel
theorem d17_45 : decode jdk_38_method_6_code 45 = .ok (.aload_n 0, 1) := by decide +kernel
theorem d17_46 : decode jdk_38_method_6_code 46 = .ok (.bipush 10, 2) := by decide +kernel
theorem d17_48 : decode jdk_38_method_6_code 48 = .ok (.iload_n 1, 1) := by decide +kernel
theorem d17_49 : decode jdk_38_method_6_code 49 = .ok (.invokestatic 79, 3) := by decide +kernel
theorem d17_52 : decode jdk_38_method_6_code 52 = .ok (.anewarray 7, 3) := by decide +kernel
theorem d17_55 : decode jdk_38_method_6_code 55 = .ok (.dup_x1, 1) := by decide +kernel
theorem d17_56 : decode jdk_38_method_6_code 56 = .ok (.putfield 9, 3) := by decide +kernel
theorem d17_59 : decode jdk_38_method_6_code 59 = .ok (.areturn, 1) := by decide +kernel
theorem ef_17 (m : MethodId) (x0 : Addr) (x1 : Int32) : entryFrame m #[(.ref x0), (.int x1)] 4 = mkF m 0 #[.val (.ref x0), .val (.int x1), .unset, .unset] [] := by first | (simp [entryFrame, mkF, argsToLocals, Value.category]; done) | rfl
set_option maxRecDepth 65536 in
set_option maxHeartbeats 40000000 in
theorem rmG1 (l : Launch) (Z : State) (a0 : Array Value) (hw : ∀ d ∈ tables_1, d.before a0 Z = true) (a : Addr) (x1 : Int32) (h0 : Heap) (n0 : Nat) (dz : Addr) (fz : Int → Value) (ga : n0 ≤ a) (Z0 : n0 ≤ h0.size) (O0 : Old Z n0 h0) (S0 : Sta Z Z.heap "java/util/ArrayList" "DEFAULTCAPACITY_EMPTY_ELEMENTDATA" "[Ljava/lang/Object;" (.ref dz)) (A0 : Ar Z Z.heap dz (.object "java/lang/Object") 0 fz) (E0 : Exa Z h0 a "java/util/ArrayList") (F1 : Fld Z h0 a "java/util/ArrayList" "size" "I" (.int 0)) (F2 : Fld Z h0 a "java/util/ArrayList" "elementData" "[Ljava/lang/Object;" (.ref dz)) (h1 : x1 = 1) :
    Con l Z (⟨"java/util/ArrayList", "grow", "(I)[Ljava/lang/Object;"⟩ : MethodName) jdk_38_method_6_code 4 (some (.array (.object "java/lang/Object"))) [] ({ frames := 1, cells := 1, slots := 10, locals := 14 } : Room) #[(.ref a), (.int x1)] h0 (fun v h L => ∃ b, v = some (.ref b) ∧ n0 ≤ b ∧ b ≠ a ∧ h0.size ≤ b ∧ Fr n0 L ∧ Keep h0 h [a] ∧ Exa Z h a "java/util/ArrayList" ∧ Fld Z h a "java/util/ArrayList" "size" "I" (.int 0) ∧ Ar Z h b (.object "java/lang/Object") 10 (fun _ => .null) ∧ Ov Z h b "java/lang/Object") := by
  refine Con.of (plainFor_of_name pn_ArrayList) ?_
  intro p e s m below meth c s₁ hx hby hml hown hnm hret hlk hZ X0 e0
  refine Go.cast (ef_17 m a x1) ?_
  replace hown : s.vm.findClass "java/util/ArrayList" = some m.cls := hown
  subst h1
  show Go p e below _ (s₁.setTop (mkF m 0 #[.val (.ref a), .val (.int (1 : Int32)), .unset, .unset] []))
  refine Go.aloadN (pc' := 1) X0 hx hby d17_0 rfl rfl rfl ?_
  refine Go.getF (pc' := 4) X0 hx hby hZ hown (hw _ (List.mem_of_getElem? (i := 33) rfl)) Via.refl e0 F2 d17_1 rfl ?_
  intro T1 X2 e3
  have A1 := A0.ext O0.2
  refine Go.alen (pc' := 5) (zv := (0 : Int32)) X2 hx hby hZ e3 A1 d17_4 rfl (by decide) ?_
  refine Go.istoreN (Ls' := #[.val (.ref a), .val (.int (1 : Int32)), .val (.int (0 : Int32)), .unset]) (pc' := 6) X2 hx hby d17_5 rfl rfl ?_
  refine Go.iloadN (pc' := 7) X2 hx hby d17_6 rfl rfl ?_
  refine Go.ifN (pc' := 10) X2 hx hby d17_7 rfl (show ¬ (0 < (0 : Int32)) from by decide) ?_
  refine Go.aloadN (pc' := 11) X2 hx hby d17_10 rfl rfl rfl ?_
  refine Go.getF (pc' := 14) X2 hx hby hZ hown (hw _ (List.mem_of_getElem? (i := 33) rfl)) Via.refl e3 F2 d17_11 rfl ?_
  intro T4 X5 e6
  have S1 := Sta.ext O0.2 S0
  refine Go.getSt (pc' := 17) X5 hx hby hZ hown (hw _ (List.mem_of_getElem? (i := 32) rfl)) Via.refl e6 S1 d17_14 rfl ?_
  intro T7 X8 e9
  refine Go.acmpEq (pc' := 45) X8 hx hby d17_17 (by decide) (by decide) ?_
  refine Go.aloadN (pc' := 46) X8 hx hby d17_45 rfl rfl rfl ?_
  refine Go.bipush (pc' := 48) X8 hx hby d17_46 rfl (v := (10 : Int32)) (by decide) ?_
  refine Go.iloadN (pc' := 49) X8 hx hby d17_48 rfl rfl ?_
  refine Go.callS (pc' := 52) (W := 1) (argsL := [(.int (10 : Int32)), (.int (1 : Int32))]) (rest := [(.ref a)]) X8 hx hby hZ hown (hw _ (List.mem_of_getElem? (i := 137) rfl)) (hw _ (List.mem_of_getElem? (i := 138) rfl)) (hw _ (List.mem_of_getElem? (i := 139) rfl)) (hw _ (List.mem_of_getElem? (i := 140) rfl)) (by decide) (rmX l Z a0 hw 10 1 h0) e9 (by decide) (by decide) (by rw [hml]; rfl) pd_5 rfl rfl rfl (Nat.le_of_eq rfl) d17_49 rfl (by decide) (by decide) ?_
  rintro r10 T11 L12 X13 ⟨rfl, rfl, e15⟩
  rw [List.append_nil] at X13
  show Go p e below _ (T11.setTop (mkF m 52 #[.val (.ref a), .val (.int (1 : Int32)), .val (.int (0 : Int32)), .unset] [(.int (own_max 10 1)), (.ref a)]))
  change Go p e below _ (T11.setTop (mkF m 52 #[.val (.ref a), .val (.int (1 : Int32)), .val (.int (0 : Int32)), .unset] [(.int ((10 : Int32))), (.ref a)]))
  refine Go.anewarr (C := "java/lang/Object") (pc' := 55) (cap := 10) (z := 10) X13 hx hby hZ hown (hw _ (List.mem_of_getElem? (i := 141) rfl)) (hw _ (List.mem_of_getElem? (i := 46) rfl)) e15 d17_52 rfl (by decide) (by decide) (by decide) (by decide) (by decide) (by decide) ?_
  intro b16 T17 h18 g19 X20 e21 E22 A23 O24
  have n25 : a ≠ b16 := Nat.ne_of_lt (by rw [g19]; exact E0.lt)
  have g26 : n0 ≤ b16 := by rw [g19]; exact Z0
  have f27 : Old Z n0 h18 := O0.ext E22
  have f28 : Exa Z h18 a "java/util/ArrayList" := Exa.ext E22 E0
  have f29 : Fld Z h18 a "java/util/ArrayList" "size" "I" (.int 0) := Fld.ext E22 F1
  have f30 : Fld Z h18 a "java/util/ArrayList" "elementData" "[Ljava/lang/Object;" (.ref dz) := Fld.ext E22 F2
  have z31 : n0 ≤ h18.size := Nat.le_trans Z0 E22.1
  have f32 : Ar Z h18 b16 (.object "java/lang/Object") 10 (fun _ => .null) := A23
  have f33 : Ov Z h18 b16 "java/lang/Object" := O24
  show Go p e below _ (T17.setTop (mkF m 55 #[.val (.ref a), .val (.int (1 : Int32)), .val (.int (0 : Int32)), .unset] [(.ref b16), (.ref a)]))
  refine Go.dupX1 (pc' := 56) X20 hx hby d17_55 rfl rfl rfl ?_
  refine Go.putF (pc' := 59) (ty := (.array (.object "java/lang/Object"))) X20 hx hby hZ hown (hw _ (List.mem_of_getElem? (i := 33) rfl)) Via.refl e21 f30 f28 (Or.inl (hw _ (List.mem_of_getElem? (i := 34) rfl))) (hw _ (List.mem_of_getElem? (i := 12) rfl)) (by decide) rfl rfl d17_56 rfl ?_
  intro T34 h35 X36 e37 W38
  have f39 : Old Z n0 h35 := f27.wr W38 ga
  have f40 : Exa Z h35 a "java/util/ArrayList" := Exa.wr W38 f28
  have f41 : Fld Z h35 a "java/util/ArrayList" "size" "I" (.int 0) := Fld.other W38 f29 (Or.inr (slot_ne (t := .int) (t' := (.array (.object "java/lang/Object"))) (Or.inl (hw _ (List.mem_of_getElem? (i := 99) rfl))) (Or.inl (hw _ (List.mem_of_getElem? (i := 34) rfl))) (by decide) (by decide) (by decide)))
  have f42 : Ar Z h35 b16 (.object "java/lang/Object") 10 (fun _ => .null) := f32.other W38 (Ne.symm n25)
  have f43 : Ov Z h35 b16 "java/lang/Object" := f33.wr W38
  have z44 : n0 ≤ h35.size := by rw [Wr.size W38]; exact z31
  have f45 : Fld Z h35 a "java/util/ArrayList" "elementData" "[Ljava/lang/Object;" (.ref b16) := Fld.same W38 f30
  have N46 : Fr n0 _ := Fr.snoc X36 (Fr.nil _) ga
  show Go p e below _ (T34.setTop (mkF m 59 #[.val (.ref a), .val (.int (1 : Int32)), .val (.int (0 : Int32)), .unset] [(.ref b16)]))
  exact Go.retA X36 hx hby hlk hret rfl rfl rfl d17_59 (by decide) (by decide) ⟨b16, rfl, g26, Ne.symm n25, by rw [g19]; exact Nat.le_refl _, N46, by rw [e37]; exact ((Keep.refl h0 _).ext E22).wr W38 (Or.inl (List.mem_singleton.mpr rfl)), by rw [e37]; exact f40, by rw [e37]; exact f41, by rw [e37]; exact f42, by rw [e37]; exact f43⟩
theorem d16_0 : decode jdk_38_method_7_code 0 = .ok (.aload_n 0, 1) := by decide +kernel
theorem d16_1 : decode jdk_38_method_7_code 1 = .ok (.aload_n 0, 1) := by decide +kernel
theorem d16_2 : decode jdk_38_method_7_code 2 = .ok (.getfield 48, 3) := by decide +kernel
theorem d16_5 : decode jdk_38_method_7_code 5 = .ok (.iconst 1, 1) := by decide +kernel
theorem d16_6 : decode jdk_38_method_7_code 6 = .ok (.iadd, 1) := by decide +kernel
theorem d16_7 : decode jdk_38_method_7_code 7 = .ok (.invokevirtual 69, 3) := by decide +kernel
theorem d16_10 : decode jdk_38_method_7_code 10 = .ok (.areturn, 1) := by decide +kernel
theorem ef_16 (m : MethodId) (x0 : Addr) : entryFrame m #[(.ref x0)] 1 = mkF m 0 #[.val (.ref x0)] [] := by first | (simp [entryFrame, mkF, argsToLocals, Value.category]; done) | rfl
set_option maxRecDepth 65536 in
set_option maxHeartbeats 40000000 in
theorem rmG0 (l : Launch) (Z : State) (a0 : Array Value) (hw : ∀ d ∈ tables_1, d.before a0 Z = true) (a : Addr) (h0 : Heap) (n0 : Nat) (dz : Addr) (fz : Int → Value) (ga : n0 ≤ a) (Z0 : n0 ≤ h0.size) (O0 : Old Z n0 h0) (S0 : Sta Z Z.heap "java/util/ArrayList" "DEFAULTCAPACITY_EMPTY_ELEMENTDATA" "[Ljava/lang/Object;" (.ref dz)) (A0 : Ar Z Z.heap dz (.object "java/lang/Object") 0 fz) (E0 : Exa Z h0 a "java/util/ArrayList") (F1 : Fld Z h0 a "java/util/ArrayList" "size" "I" (.int 0)) (F2 : Fld Z h0 a "java/util/ArrayList" "elementData" "[Ljava/lang/Object;" (.ref dz)) :
    Con l Z (⟨"java/util/ArrayList", "grow", "()[Ljava/lang/Object;"⟩ : MethodName) jdk_38_method_7_code 1 (some (.array (.object "java/lang/Object"))) [] ({ frames := 2, cells := 1, slots := 10, locals := 29 } : Room) #[(.ref a)] h0 (fun v h L => ∃ b, v = some (.ref b) ∧ n0 ≤ b ∧ b ≠ a ∧ h0.size ≤ b ∧ Fr n0 L ∧ Keep h0 h [a] ∧ Exa Z h a "java/util/ArrayList" ∧ Fld Z h a "java/util/ArrayList" "size" "I" (.int 0) ∧ Ar Z h b (.object "java/lang/Object") 10 (fun _ => .null) ∧ Ov Z h b "java/lang/Object") := by
  refine Con.of (plainFor_of_name pn_ArrayList) ?_
  intro p e s m below meth c s₁ hx hby hml hown hnm hret hlk hZ X0 e0
  refine Go.cast (ef_16 m a) ?_
  replace hown : s.vm.findClass "java/util/ArrayList" = some m.cls := hown
  refine Go.aloadN (pc' := 1) X0 hx hby d16_0 rfl rfl rfl ?_
  refine Go.aloadN (pc' := 2) X0 hx hby d16_1 rfl rfl rfl ?_
  refine Go.getF (pc' := 5) X0 hx hby hZ hown (hw _ (List.mem_of_getElem? (i := 98) rfl)) Via.refl e0 F1 d16_2 rfl ?_
  intro T1 X2 e3
  refine Go.iconst (pc' := 6) X2 hx hby d16_5 rfl (v := (1 : Int32)) (by decide) ?_
  refine Go.iadd (pc' := 7) X2 hx hby d16_6 rfl ?_
  refine Go.callP (C := "java/util/ArrayList") (pc' := 10) (a := a) (W := 0) (argsL := [(.int ((0 : Int32) + (1 : Int32)))]) (rest := []) X2 hx hby hZ hown (hw _ (List.mem_of_getElem? (i := 132) rfl)) (hw _ (List.mem_of_getElem? (i := 133) rfl)) (hw _ (List.mem_of_getElem? (i := 135) rfl)) (hw _ (List.mem_of_getElem? (i := 134) rfl)) (hw _ (List.mem_of_getElem? (i := 13) rfl)) (hw _ (List.mem_of_getElem? (i := 136) rfl)) (by decide) (rmG1 l Z a0 hw a ((0 : Int32) + (1 : Int32)) h0 n0 dz fz ga Z0 O0 S0 A0 E0 F1 F2 (by decide)) e3 E0 (by decide) (by decide) (by rw [hml]; rfl) pd_4 rfl rfl rfl (Nat.le_of_eq rfl) d16_7 rfl (by decide) (by decide) ?_
  rintro r4 T5 L6 X7 ⟨b, rfl, g1, g2, g3, N1, K1, E1, F3, A1, V1⟩
  show Go p e below _ (T5.setTop (mkF m 10 #[.val (.ref a)] [(.ref b)]))
  exact Go.retA X7 hx hby hlk hret rfl rfl rfl d16_10 (by decide) (by decide) ⟨b, rfl, g1, g2, g3, Fr.app (Fr.nil _) N1, K1, E1, F3, A1, V1⟩
theorem d15_0 : decode jdk_38_method_24_code 0 = .ok (.iload_n 3, 1) := by decide +kernel
theorem d15_1 : decode jdk_38_method_24_code 1 = .ok (.aload_n 2, 1) := by decide +kernel
theorem d15_2 : decode jdk_38_method_24_code 2 = .ok (.arraylength, 1) := by decide +kernel
theorem d15_3 : decode jdk_38_method_24_code 3 = .ok (.if_icmp .ne 8, 3) := by decide +kernel
theorem d15_6 : decode jdk_38_method_24_code 6 = .ok (.aload_n 0, 1) := by decide +kernel
theorem d15_7 : decode jdk_38_method_24_code 7 = .ok (.invokevirtual 129, 3) := by decide +kernel
theorem d15_10 : decode jdk_38_method_24_code 10 = .ok (.astore_n 2, 1) := by decide +kernel
theorem d15_11 : decode jdk_38_method_24_code 11 = .ok (.aload_n 2, 1) := by decide +kernel
theorem d15_12 : decode jdk_38_method_24_code 12 = .ok (.iload_n 3, 1) := by decide +kernel
theorem d15_13 : decode jdk_38_method_24_code 13 = .ok (.aload_n 1, 1) := by decide +kernel
theorem d15_14 : decode jdk_38_method_24_code 14 = .ok (.aastore, 1) := by decide +kernel
theorem d15_15 : decode jdk_38_method_24_code 15 = .ok (.aload_n 0, 1) := by decide +kernel
theorem d15_16 : decode jdk_38_method_24_code 16 = .ok (.iload_n 3, 1) := by decide +kernel
theorem d15_17 : decode jdk_38_method_24_code 17 = .ok (.iconst 1, 1) := by decide +kernel
theorem d15_18 : decode jdk_38_method_24_code 18 = .ok (.iadd, 1) := by decide +kernel
theorem d15_19 : decode jdk_38_method_24_code 19 = .ok (.putfield 48, 3) := by decide +kernel
theorem d15_22 : decode jdk_38_method_24_code 22 = .ok (.return_, 1) := by decide +kernel
theorem ef_15 (m : MethodId) (x0 : Addr) (x1 : Addr) (x2 : Addr) (x3 : Int32) : entryFrame m #[(.ref x0), (.ref x1), (.ref x2), (.int x3)] 4 = mkF m 0 #[.val (.ref x0), .val (.ref x1), .val (.ref x2), .val (.int x3)] [] := by first | (simp [entryFrame, mkF, argsToLocals, Value.category]; done) | rfl
set_option maxRecDepth 65536 in
set_option maxHeartbeats 40000000 in
theorem rmA3 (l : Launch) (Z : State) (a0 : Array Value) (hw : ∀ d ∈ tables_1, d.before a0 Z = true) (a : Addr) (o : Addr) (dy : Addr) (x3 : Int32) (h0 : Heap) (n0 : Nat) (dz : Addr) (fz : Int → Value) (ga : n0 ≤ a) (Z0 : n0 ≤ h0.size) (O0 : Old Z n0 h0) (S0 : Sta Z Z.heap "java/util/ArrayList" "DEFAULTCAPACITY_EMPTY_ELEMENTDATA" "[Ljava/lang/Object;" (.ref dz)) (A0 : Ar Z Z.heap dz (.object "java/lang/Object") 0 fz) (E0 : Exa Z h0 a "java/util/ArrayList") (F1 : Fld Z h0 a "java/util/ArrayList" "size" "I" (.int 0)) (F2 : Fld Z h0 a "java/util/ArrayList" "elementData" "[Ljava/lang/Object;" (.ref dz)) (I0 : Ins Z h0 o "java/lang/Object" true) (h3 : x3 = 0) (hdy : dy = dz) :
    Con l Z (⟨"java/util/ArrayList", "add", "(Ljava/lang/Object;[Ljava/lang/Object;I)V"⟩ : MethodName) jdk_38_method_24_code 4 none [] ({ frames := 3, cells := 1, slots := 10, locals := 41 } : Room) #[(.ref a), (.ref o), (.ref dy), (.int x3)] h0 (fun v h L => v = none ∧ Fr n0 L ∧ Keep h0 h [a] ∧ Exa Z h a "java/util/ArrayList" ∧ Fld Z h a "java/util/ArrayList" "size" "I" (.int 1)) := by
  refine Con.of (plainFor_of_name pn_ArrayList) ?_
  intro p e s m below meth c s₁ hx hby hml hown hnm hret hlk hZ X0 e0
  refine Go.cast (ef_15 m a o dy x3) ?_
  replace hown : s.vm.findClass "java/util/ArrayList" = some m.cls := hown
  subst h3 hdy
  show Go p e below _ (s₁.setTop (mkF m 0 #[.val (.ref a), .val (.ref o), .val (.ref dy), .val (.int (0 : Int32))] []))
  refine Go.iloadN (pc' := 1) X0 hx hby d15_0 rfl rfl ?_
  refine Go.aloadN (pc' := 2) X0 hx hby d15_1 rfl rfl rfl ?_
  have A1 := A0.ext O0.2
  refine Go.alen (pc' := 3) (zv := (0 : Int32)) X0 hx hby hZ e0 A1 d15_2 rfl (by decide) ?_
  refine Go.icmpN (pc' := 6) X0 hx hby d15_3 rfl (show ¬ ((0 : Int32) ≠ (0 : Int32)) from fun q => q rfl) ?_
  refine Go.aloadN (pc' := 7) X0 hx hby d15_6 rfl rfl rfl ?_
  refine Go.callP (C := "java/util/ArrayList") (pc' := 10) (a := a) (W := 0) (argsL := []) (rest := []) X0 hx hby hZ hown (hw _ (List.mem_of_getElem? (i := 127) rfl)) (hw _ (List.mem_of_getElem? (i := 128) rfl)) (hw _ (List.mem_of_getElem? (i := 130) rfl)) (hw _ (List.mem_of_getElem? (i := 129) rfl)) (hw _ (List.mem_of_getElem? (i := 13) rfl)) (hw _ (List.mem_of_getElem? (i := 131) rfl)) (by decide) (rmG0 l Z a0 hw a h0 n0 dy fz ga Z0 O0 S0 A0 E0 F1 F2) e0 E0 (by decide) (by decide) (by rw [hml]; rfl) pd_3 rfl rfl rfl (Nat.le_of_eq rfl) d15_7 rfl (by decide) (by decide) ?_
  rintro r1 T2 L3 X4 ⟨b, rfl, g1, g2, g3, N1, K1, E1, F3, A2, V1⟩
  have I1 : Ins Z T2.heap o "java/lang/Object" true := own_ins I0 K1
  have O1 := O0.keep K1 (allS ga all0)
  have Z1 : n0 ≤ T2.heap.size := Nat.le_trans Z0 K1.1
  show Go p e below _ (T2.setTop (mkF m 10 #[.val (.ref a), .val (.ref o), .val (.ref dy), .val (.int (0 : Int32))] [(.ref b)]))
  refine Go.astoreN (Ls' := #[.val (.ref a), .val (.ref o), .val (.ref b), .val (.int (0 : Int32))]) (pc' := 11) X4 hx hby d15_10 rfl rfl rfl ?_
  refine Go.aloadN (pc' := 12) X4 hx hby d15_11 rfl rfl rfl ?_
  refine Go.iloadN (pc' := 13) X4 hx hby d15_12 rfl rfl ?_
  refine Go.aloadN (pc' := 14) X4 hx hby d15_13 rfl rfl rfl ?_
  refine Go.aastore (pc' := 15) (i := 0) X4 hx hby hZ rfl A2 rfl (Sto.ofA A2 V1 I1) d15_14 rfl (by decide) (by decide) (by decide) ?_
  intro T5 h6 X7 e8 W9 A10
  have f11 : Old Z n0 h6 := O1.wr W9 g1
  have f12 : Exa Z h6 a "java/util/ArrayList" := Exa.wr W9 E1
  have f13 : Fld Z h6 a "java/util/ArrayList" "size" "I" (.int 0) := Fld.other W9 F3 (Or.inl (Ne.symm g2))
  have f14 : Ov Z h6 b "java/lang/Object" := V1.wr W9
  have z15 : n0 ≤ h6.size := by rw [Wr.size W9]; exact Z1
  have f16 : Ar Z h6 b (.object "java/lang/Object") 10 (fun q => if q = 0 then (.ref o) else .null) := A10
  have N17 : Fr n0 _ := Fr.snoc X7 (Fr.app (Fr.nil _) N1) g1
  show Go p e below _ (T5.setTop (mkF m 15 #[.val (.ref a), .val (.ref o), .val (.ref b), .val (.int (0 : Int32))] []))
  refine Go.aloadN (pc' := 16) X7 hx hby d15_15 rfl rfl rfl ?_
  refine Go.iloadN (pc' := 17) X7 hx hby d15_16 rfl rfl ?_
  refine Go.iconst (pc' := 18) X7 hx hby d15_17 rfl (v := (1 : Int32)) (by decide) ?_
  refine Go.iadd (pc' := 19) X7 hx hby d15_18 rfl ?_
  have q1 : (0 : Int32) + 1 = 1 := by decide
  refine Go.putF (pc' := 22) (ty := .int) X7 hx hby hZ hown (hw _ (List.mem_of_getElem? (i := 98) rfl)) Via.refl e8 f13 f12 (Or.inl (hw _ (List.mem_of_getElem? (i := 99) rfl))) (hw _ (List.mem_of_getElem? (i := 12) rfl)) (by decide) rfl rfl d15_19 rfl ?_
  intro T18 h19 X20 e21 W22
  have f23 : Old Z n0 h19 := f11.wr W22 ga
  have f24 : Exa Z h19 a "java/util/ArrayList" := Exa.wr W22 f12
  have f25 : Ar Z h19 b (.object "java/lang/Object") 10 (fun q => if q = 0 then (.ref o) else .null) := f16.other W22 g2
  have f26 : Ov Z h19 b "java/lang/Object" := f14.wr W22
  have z27 : n0 ≤ h19.size := by rw [Wr.size W22]; exact z15
  have f28 : Fld Z h19 a "java/util/ArrayList" "size" "I" (.int ((0 : Int32) + (1 : Int32))) := Fld.same W22 f13
  have N29 : Fr n0 _ := Fr.snoc X20 N17 ga
  show Go p e below _ (T18.setTop (mkF m 22 #[.val (.ref a), .val (.ref o), .val (.ref b), .val (.int (0 : Int32))] []))
  exact Go.ret0 X20 hx hby hlk hret d15_22 (by decide) (by decide) ⟨rfl, N29, by rw [e21]; exact (K1.wr W9 (Or.inr g3)).wr W22 (Or.inl (List.mem_singleton.mpr rfl)), by rw [e21]; exact f24, by rw [e21]; exact f28⟩
theorem d14_0 : decode jdk_38_method_25_code 0 = .ok (.aload_n 0, 1) := by decide +kernel
theorem d14_1 : decode jdk_38_method_25_code 1 = .ok (.dup, 1) := by decide +kernel
theorem d14_2 : decode jdk_38_method_25_code 2 = .ok (.getfield 63, 3) := by decide +kernel
theorem d14_5 : decode jdk_38_method_25_code 5 = .ok (.iconst 1, 1) := by decide +kernel
theorem d14_6 : decode jdk_38_method_25_code 6 = .ok (.iadd, 1) := by decide +kernel
theorem d14_7 : decode jdk_38_method_25_code 7 = .ok (.putfield 63, 3) := by decide +kernel
theorem d14_10 : decode jdk_38_method_25_code 10 = .ok (.aload_n 0, 1) := by decide +kernel
theorem d14_11 : decode jdk_38_method_25_code 11 = .ok (.aload_n 1, 1) := by decide +kernel
theorem d14_12 : decode jdk_38_method_25_code 12 = .ok (.aload_n 0, 1) := by decide +kernel
theorem d14_13 : decode jdk_38_method_25_code 13 = .ok (.getfield 9, 3) := by decide +kernel
theorem d14_16 : decode jdk_38_method_25_code 16 = .ok (.aload_n 0, 1) := by decide +kernel
theorem d14_17 : decode jdk_38_method_25_code 17 = .ok (.getfield 48, 3) := by decide +kernel
theorem d14_20 : decode jdk_38_method_25_code 20 = .ok (.invokevirtual 131, 3) := by decide +kernel
theorem d14_23 : decode jdk_38_method_25_code 23 = .ok (.iconst 1, 1) := by decide +kernel
theorem d14_24 : decode jdk_38_method_25_code 24 = .ok (.ireturn, 1) := by decide +kernel
theorem ef_14 (m : MethodId) (x0 : Addr) (x1 : Addr) : entryFrame m #[(.ref x0), (.ref x1)] 2 = mkF m 0 #[.val (.ref x0), .val (.ref x1)] [] := by first | (simp [entryFrame, mkF, argsToLocals, Value.category]; done) | rfl
set_option maxRecDepth 65536 in
set_option maxHeartbeats 40000000 in
theorem rmA1 (l : Launch) (Z : State) (a0 : Array Value) (hw : ∀ d ∈ tables_1, d.before a0 Z = true) (a : Addr) (o : Addr) (h0 : Heap) (n0 : Nat) (dz : Addr) (fz : Int → Value) (ga : n0 ≤ a) (Z0 : n0 ≤ h0.size) (O0 : Old Z n0 h0) (S0 : Sta Z Z.heap "java/util/ArrayList" "DEFAULTCAPACITY_EMPTY_ELEMENTDATA" "[Ljava/lang/Object;" (.ref dz)) (A0 : Ar Z Z.heap dz (.object "java/lang/Object") 0 fz) (E0 : Exa Z h0 a "java/util/ArrayList") (F1 : Fld Z h0 a "java/util/ArrayList" "size" "I" (.int 0)) (F2 : Fld Z h0 a "java/util/ArrayList" "elementData" "[Ljava/lang/Object;" (.ref dz)) (F3 : Fld Z h0 a "java/util/AbstractList" "modCount" "I" (.int 0)) (I0 : Ins Z h0 o "java/lang/Object" true) :
    Con l Z (⟨"java/util/ArrayList", "add", "(Ljava/lang/Object;)Z"⟩ : MethodName) jdk_38_method_25_code 2 (some .boolean) [] ({ frames := 4, cells := 1, slots := 10, locals := 56 } : Room) #[(.ref a), (.ref o)] h0 (fun v h L => v = some (.int 1) ∧ Fr n0 L ∧ Keep h0 h [a] ∧ Exa Z h a "java/util/ArrayList" ∧ Fld Z h a "java/util/ArrayList" "size" "I" (.int 1)) := by
  refine Con.of (plainFor_of_name pn_ArrayList) ?_
  intro p e s m below meth c s₁ hx hby hml hown hnm hret hlk hZ X0 e0
  refine Go.cast (ef_14 m a o) ?_
  replace hown : s.vm.findClass "java/util/ArrayList" = some m.cls := hown
  refine Go.aloadN (pc' := 1) X0 hx hby d14_0 rfl rfl rfl ?_
  refine Go.dup (pc' := 2) X0 hx hby d14_1 rfl rfl ?_
  refine Go.getF (pc' := 5) X0 hx hby hZ hown (hw _ (List.mem_of_getElem? (i := 120) rfl)) (Via.of (hw _ (List.mem_of_getElem? (i := 121) rfl))) e0 F3 d14_2 rfl ?_
  intro T1 X2 e3
  refine Go.iconst (pc' := 6) X2 hx hby d14_5 rfl (v := (1 : Int32)) (by decide) ?_
  refine Go.iadd (pc' := 7) X2 hx hby d14_6 rfl ?_
  refine Go.putF (pc' := 10) (ty := .int) X2 hx hby hZ hown (hw _ (List.mem_of_getElem? (i := 120) rfl)) (Via.of (hw _ (List.mem_of_getElem? (i := 121) rfl))) e3 F3 E0 (Or.inl (hw _ (List.mem_of_getElem? (i := 31) rfl))) (hw _ (List.mem_of_getElem? (i := 12) rfl)) (by decide) rfl rfl d14_7 rfl ?_
  intro T4 h5 X6 e7 W8
  have f9 : Old Z n0 h5 := O0.wr W8 ga
  have f10 : Exa Z h5 a "java/util/ArrayList" := Exa.wr W8 E0
  have f11 : Fld Z h5 a "java/util/ArrayList" "size" "I" (.int 0) := Fld.other W8 F1 (Or.inr (slot_ne (t := .int) (t' := .int) (Or.inl (hw _ (List.mem_of_getElem? (i := 99) rfl))) (Or.inl (hw _ (List.mem_of_getElem? (i := 31) rfl))) (by decide) (by decide) (by decide)))
  have f12 : Fld Z h5 a "java/util/ArrayList" "elementData" "[Ljava/lang/Object;" (.ref dz) := Fld.other W8 F2 (Or.inr (slot_ne (t := (.array (.object "java/lang/Object"))) (t' := .int) (Or.inl (hw _ (List.mem_of_getElem? (i := 34) rfl))) (Or.inl (hw _ (List.mem_of_getElem? (i := 31) rfl))) (by decide) (by decide) (by decide)))
  have z13 : n0 ≤ h5.size := by rw [Wr.size W8]; exact Z0
  have f14 : Fld Z h5 a "java/util/AbstractList" "modCount" "I" (.int ((0 : Int32) + (1 : Int32))) := Fld.same W8 F3
  have N15 : Fr n0 _ := Fr.snoc X6 (Fr.nil _) ga
  show Go p e below _ (T4.setTop (mkF m 10 #[.val (.ref a), .val (.ref o)] []))
  have I1 := Ins.wr W8 I0
  have K1 := (Keep.refl h0 [a]).wr W8 (Or.inl (List.mem_singleton.mpr rfl))
  refine Go.aloadN (pc' := 11) X6 hx hby d14_10 rfl rfl rfl ?_
  refine Go.aloadN (pc' := 12) X6 hx hby d14_11 rfl rfl rfl ?_
  refine Go.aloadN (pc' := 13) X6 hx hby d14_12 rfl rfl rfl ?_
  refine Go.getF (pc' := 16) X6 hx hby hZ hown (hw _ (List.mem_of_getElem? (i := 33) rfl)) Via.refl e7 f12 d14_13 rfl ?_
  intro T16 X17 e18
  refine Go.aloadN (pc' := 17) X17 hx hby d14_16 rfl rfl rfl ?_
  refine Go.getF (pc' := 20) X17 hx hby hZ hown (hw _ (List.mem_of_getElem? (i := 98) rfl)) Via.refl e18 f11 d14_17 rfl ?_
  intro T19 X20 e21
  refine Go.callP (C := "java/util/ArrayList") (pc' := 23) (a := a) (W := 0) (argsL := [(.ref o), (.ref dz), (.int (0 : Int32))]) (rest := []) X20 hx hby hZ hown (hw _ (List.mem_of_getElem? (i := 122) rfl)) (hw _ (List.mem_of_getElem? (i := 123) rfl)) (hw _ (List.mem_of_getElem? (i := 125) rfl)) (hw _ (List.mem_of_getElem? (i := 124) rfl)) (hw _ (List.mem_of_getElem? (i := 13) rfl)) (hw _ (List.mem_of_getElem? (i := 126) rfl)) (by decide) (rmA3 l Z a0 hw a o dz 0 h5 n0 dz fz ga z13 f9 S0 A0 f10 f11 f12 I1 rfl rfl) e21 f10 (by decide) (by decide) (by rw [hml]; rfl) pd_9 rfl rfl rfl (Nat.le_of_eq rfl) d14_20 rfl (by decide) (by decide) ?_
  rintro r22 T23 L24 X25 ⟨rfl, N2, K2, E2, F9⟩
  show Go p e below _ (T23.setTop (mkF m 23 #[.val (.ref a), .val (.ref o)] []))
  refine Go.iconst (pc' := 24) X25 hx hby d14_23 rfl (v := (1 : Int32)) (by decide) ?_
  exact Go.retZ X25 hx hby hlk hret (by simp) d14_24 (by decide) (by decide) ⟨rfl, Fr.app N15 N2, K1.trans K2 (allS (Or.inl (List.mem_singleton.mpr rfl)) all0), E2, F9⟩
theorem d8_0 : decode prog_18_method_5_code 0 = .ok (.aload_n 0, 1) := by decide +kernel
theorem d8_1 : decode prog_18_method_5_code 1 = .ok (.invokevirtual 38, 3) := by decide +kernel
theorem d8_4 : decode prog_18_method_5_code 4 = .ok (.ifCond .eq 22, 3) := by decide +kernel
theorem d8_7 : decode prog_18_method_5_code 7 = .ok (.aload_n 0, 1) := by decide +kernel
theorem d8_8 : decode prog_18_method_5_code 8 = .ok (.getfield 10, 3) := by decide +kernel
theorem d8_11 : decode prog_18_method_5_code 11 = .ok (.new 42, 3) := by decide +kernel
theorem d8_14 : decode prog_18_method_5_code 14 = .ok (.dup, 1) := by decide +kernel
theorem d8_15 : decode prog_18_method_5_code 15 = .ok (.iload_n 1, 1) := by decide +kernel
theorem d8_16 : decode prog_18_method_5_code 16 = .ok (.aload_n 2, 1) := by decide +kernel
theorem d8_17 : decode prog_18_method_5_code 17 = .ok (.invokespecial 44, 3) := by decide +kernel
theorem d8_20 : decode prog_18_method_5_code 20 = .ok (.invokeinterface 47 2, 5) := by decide +kernel
theorem d8_25 : decode prog_18_method_5_code 25 = .ok (.pop, 1) := by decide +kernel
theorem d8_26 : decode prog_18_method_5_code 26 = .ok (.return_, 1) := by decide +kernel
theorem ef_8 (m : MethodId) (x0 : Addr) (x1 : Int32) (x2 : Addr) : entryFrame m #[(.ref x0), (.int x1), (.ref x2)] 3 = mkF m 0 #[.val (.ref x0), .val (.int x1), .val (.ref x2)] [] := by first | (simp [entryFrame, mkF, argsToLocals, Value.category]; done) | rfl
set_option maxRecDepth 65536 in
set_option maxHeartbeats 40000000 in
theorem rmTn (l : Launch) (Z : State) (a0 : Array Value) (hw : ∀ d ∈ tables_1, d.before a0 Z = true) (a : Addr) (x1 : Int32) (sa : Addr) (h0 : Heap) (E0 : Exa Z h0 a "com/example/minos/minos/io/zip/WinZipAesKeys") (F0 : Fld Z h0 a "com/example/minos/minos/io/zip/WinZipAesKeys" "password" "[C" .null) :
    Con l Z (⟨"com/example/minos/minos/io/zip/WinZipAesKeys", "expect", "(I[B)V"⟩ : MethodName) prog_18_method_5_code 3 none [] ({ frames := 1, cells := 0, slots := 0, locals := 12 } : Room) #[(.ref a), (.int x1), (.ref sa)] h0 (PQ none h0) := by
  refine Con.of (plainFor_of_name pn_WinZipAesKeys) ?_
  intro p e s m below meth c s₁ hx hby hml hown hnm hret hlk hZ X0 e0
  refine Go.cast (ef_8 m a x1 sa) ?_
  replace hown : s.vm.findClass "com/example/minos/minos/io/zip/WinZipAesKeys" = some m.cls := hown
  refine Go.aloadN (pc' := 1) X0 hx hby d8_0 rfl rfl rfl ?_
  refine Go.callV (C := "com/example/minos/minos/io/zip/WinZipAesKeys") (pc' := 4) (a := a) (W := 0) (argsL := []) (rest := []) X0 hx hby hZ hown (hw _ (List.mem_of_getElem? (i := 67) rfl)) (hw _ (List.mem_of_getElem? (i := 58) rfl)) (notFace_of_selects (args := #[]) (mvT hZ (hw _ (List.mem_of_getElem? (i := 60) rfl)))) (hw _ (List.mem_of_getElem? (i := 60) rfl)) (hw _ (List.mem_of_getElem? (i := 59) rfl)) (hw _ (List.mem_of_getElem? (i := 4) rfl)) (hw _ (List.mem_of_getElem? (i := 61) rfl)) (by decide) (rmEn l Z a0 hw a h0 F0) e0 E0 (by decide) (by decide) (by rw [hml]; rfl) pd_2 rfl rfl rfl (Nat.le_of_eq rfl) d8_1 rfl (by decide) (by decide) ?_
  rintro r1 T2 L3 X4 ⟨rfl, rfl, e1⟩
  rw [List.append_nil] at X4
  show Go p e below _ (T2.setTop (mkF m 4 #[.val (.ref a), .val (.int x1), .val (.ref sa)] [(.int (0 : Int32))]))
  refine Go.ifY (pc' := 26) X4 hx hby d8_4 (by decide) (by decide) (show (0 : Int32) = 0 from rfl) ?_
  exact Go.ret0 X4 hx hby hlk hret d8_26 (by decide) (by decide) ⟨rfl, rfl, e1⟩
set_option maxRecDepth 65536 in
set_option maxHeartbeats 40000000 in
theorem rmTr (l : Launch) (Z : State) (a0 : Array Value) (hw : ∀ d ∈ tables_1, d.before a0 Z = true) (a : Addr) (x1 : Int32) (sa : Addr) (h0 : Heap) (n0 : Nat) (dz : Addr) (fz : Int → Value) (pw ls : Addr) (Z0 : n0 ≤ h0.size) (O0 : Old Z n0 h0) (S0 : Sta Z Z.heap "java/util/ArrayList" "DEFAULTCAPACITY_EMPTY_ELEMENTDATA" "[Ljava/lang/Object;" (.ref dz)) (A0 : Ar Z Z.heap dz (.object "java/lang/Object") 0 fz) (E0 : Exa Z h0 a "com/example/minos/minos/io/zip/WinZipAesKeys") (F0 : Fld Z h0 a "com/example/minos/minos/io/zip/WinZipAesKeys" "password" "[C" (.ref pw)) (F1 : Fld Z h0 a "com/example/minos/minos/io/zip/WinZipAesKeys" "inOrder" "Z" (.int 1)) (F2 : Fld Z h0 a "com/example/minos/minos/io/zip/WinZipAesKeys" "pending" "Ljava/util/List;" (.ref ls)) (gl : n0 ≤ ls) (E3 : Exa Z h0 ls "java/util/ArrayList") (F4 : Fld Z h0 ls "java/util/ArrayList" "size" "I" (.int 0)) (F5 : Fld Z h0 ls "java/util/ArrayList" "elementData" "[Ljava/lang/Object;" (.ref dz)) (F6 : Fld Z h0 ls "java/util/AbstractList" "modCount" "I" (.int 0)) :
    Con l Z (⟨"com/example/minos/minos/io/zip/WinZipAesKeys", "expect", "(I[B)V"⟩ : MethodName) prog_18_method_5_code 3 none [] ({ frames := 5, cells := 2, slots := 14, locals := 69 } : Room) #[(.ref a), (.int x1), (.ref sa)] h0 (fun v h L => v = none ∧ Fr n0 L ∧ Keep h0 h [ls] ∧ Exa Z h ls "java/util/ArrayList" ∧ Fld Z h ls "java/util/ArrayList" "size" "I" (.int 1)) := by
  refine Con.of (plainFor_of_name pn_WinZipAesKeys) ?_
  intro p e s m below meth c s₁ hx hby hml hown hnm hret hlk hZ X0 e0
  refine Go.cast (ef_8 m a x1 sa) ?_
  replace hown : s.vm.findClass "com/example/minos/minos/io/zip/WinZipAesKeys" = some m.cls := hown
  refine Go.aloadN (pc' := 1) X0 hx hby d8_0 rfl rfl rfl ?_
  refine Go.callV (C := "com/example/minos/minos/io/zip/WinZipAesKeys") (pc' := 4) (a := a) (W := 0) (argsL := []) (rest := []) X0 hx hby hZ hown (hw _ (List.mem_of_getElem? (i := 67) rfl)) (hw _ (List.mem_of_getElem? (i := 58) rfl)) (notFace_of_selects (args := #[]) (mvT hZ (hw _ (List.mem_of_getElem? (i := 60) rfl)))) (hw _ (List.mem_of_getElem? (i := 60) rfl)) (hw _ (List.mem_of_getElem? (i := 59) rfl)) (hw _ (List.mem_of_getElem? (i := 4) rfl)) (hw _ (List.mem_of_getElem? (i := 61) rfl)) (by decide) (rmEr l Z a0 hw a h0 pw F0 F1) e0 E0 (by decide) (by decide) (by rw [hml]; rfl) pd_2 rfl rfl rfl (Nat.le_of_eq rfl) d8_1 rfl (by decide) (by decide) ?_
  rintro r1 T2 L3 X4 ⟨rfl, rfl, e1⟩
  rw [List.append_nil] at X4
  show Go p e below _ (T2.setTop (mkF m 4 #[.val (.ref a), .val (.int x1), .val (.ref sa)] [(.int (1 : Int32))]))
  refine Go.ifN (pc' := 7) X4 hx hby d8_4 rfl (show ¬ ((1 : Int32) = 0) from by decide) ?_
  refine Go.aloadN (pc' := 8) X4 hx hby d8_7 rfl rfl rfl ?_
  refine Go.getF (pc' := 11) X4 hx hby hZ hown (hw _ (List.mem_of_getElem? (i := 35) rfl)) Via.refl e1 F2 d8_8 rfl ?_
  intro T5 X6 e7
  refine Go.new_ (pc' := 14) X6 hx hby hZ hown (hw _ (List.mem_of_getElem? (i := 101) rfl)) (hw _ (List.mem_of_getElem? (i := 102) rfl)) (hw _ (List.mem_of_getElem? (i := 103) rfl)) e7 d8_11 rfl (by decide) (by decide) ?_
  intro b8 T9 h10 g11 X12 e13 E14 A15 D16
  have n17 : a ≠ b8 := Nat.ne_of_lt (by rw [g11]; exact E0.lt)
  have n18 : ls ≠ b8 := Nat.ne_of_lt (by rw [g11]; exact E3.lt)
  have g19 : n0 ≤ b8 := by rw [g11]; exact Z0
  have f20 : Old Z n0 h10 := O0.ext E14
  have f21 : Exa Z h10 a "com/example/minos/minos/io/zip/WinZipAesKeys" := Exa.ext E14 E0
  have f22 : Exa Z h10 ls "java/util/ArrayList" := Exa.ext E14 E3
  have f23 : Fld Z h10 ls "java/util/ArrayList" "size" "I" (.int 0) := Fld.ext E14 F4
  have f24 : Fld Z h10 ls "java/util/ArrayList" "elementData" "[Ljava/lang/Object;" (.ref dz) := Fld.ext E14 F5
  have f25 : Fld Z h10 ls "java/util/AbstractList" "modCount" "I" (.int 0) := Fld.ext E14 F6
  have z26 : n0 ≤ h10.size := Nat.le_trans Z0 E14.1
  have f27 : Exa Z h10 b8 "com/example/minos/minos/io/zip/WinZipAesKeys$Expected" := A15
  have f28 : Fld Z h10 b8 "com/example/minos/minos/io/zip/WinZipAesKeys$Expected" "strength" "I" (.int 0) := D16 (Or.inr (hw _ (List.mem_of_getElem? (i := 109) rfl))) (ty := .int) (by decide)
  have f29 : Fld Z h10 b8 "com/example/minos/minos/io/zip/WinZipAesKeys$Expected" "salt" "[B" .null := D16 (Or.inr (hw _ (List.mem_of_getElem? (i := 111) rfl))) (ty := (.array .byte)) (by decide)
  show Go p e below _ (T9.setTop (mkF m 14 #[.val (.ref a), .val (.int x1), .val (.ref sa)] [(.ref b8), (.ref ls)]))
  have K1 : Keep h0 h10 [ls] := (Keep.refl h0 _).ext E14
  have hx1 : h0.size ≤ b8 := by rw [g11]; exact Nat.le_refl _
  refine Go.dup (pc' := 15) X12 hx hby d8_14 rfl rfl ?_
  refine Go.iloadN (pc' := 16) X12 hx hby d8_15 rfl rfl ?_
  refine Go.aloadN (pc' := 17) X12 hx hby d8_16 rfl rfl rfl ?_
  refine Go.callI (pc' := 20) (a := b8) (W := 2) (argsL := [(.int x1), (.ref sa)]) (rest := [(.ref b8), (.ref ls)]) X12 hx hby rfl hZ hown (hw _ (List.mem_of_getElem? (i := 104) rfl)) (hw _ (List.mem_of_getElem? (i := 105) rfl)) (hw _ (List.mem_of_getElem? (i := 103) rfl)) (hw _ (List.mem_of_getElem? (i := 106) rfl)) (by decide) (rmXI l Z a0 hw b8 x1 sa h10 n0 g19 z26 f27 f28 f29) e13 (by decide) (by decide) (by rw [hml]; rfl) pd_7 rfl rfl rfl (Nat.le_of_eq rfl) d8_17 rfl (by decide) (by decide) ?_
  rintro r30 T31 L32 X33 ⟨rfl, N2, K2, E2⟩
  have f34 : Old Z n0 T31.heap := f20.keep K2 (allS g19 all0)
  have f35 : Exa Z T31.heap a "com/example/minos/minos/io/zip/WinZipAesKeys" := f21.keep K2
  have f36 : Exa Z T31.heap ls "java/util/ArrayList" := f22.keep K2
  have f37 : Fld Z T31.heap ls "java/util/ArrayList" "size" "I" (.int 0) := f23.keep K2 (ninS n18 nin0)
  have f38 : Fld Z T31.heap ls "java/util/ArrayList" "elementData" "[Ljava/lang/Object;" (.ref dz) := f24.keep K2 (ninS n18 nin0)
  have f39 : Fld Z T31.heap ls "java/util/AbstractList" "modCount" "I" (.int 0) := f25.keep K2 (ninS n18 nin0)
  have f40 : Exa Z T31.heap b8 "com/example/minos/minos/io/zip/WinZipAesKeys$Expected" := f27.keep K2
  have z41 : n0 ≤ T31.heap.size := Nat.le_trans z26 K2.1
  have K3 := K1.trans K2 (allS (Or.inr hx1) all0)
  show Go p e below _ (T31.setTop (mkF m 20 #[.val (.ref a), .val (.int x1), .val (.ref sa)] [(.ref b8), (.ref ls)]))
  have I3 : Ins Z T31.heap b8 "java/lang/Object" true := Ins.of_exa E2 (hw _ (List.mem_of_getElem? (i := 142) rfl))
  refine Go.callF (C := "java/util/ArrayList") (pc' := 25) (a := ls) (W := 0) (argsL := [(.ref b8)]) (rest := []) X33 hx hby hZ hown (hw _ (List.mem_of_getElem? (i := 112) rfl)) (hw _ (List.mem_of_getElem? (i := 113) rfl)) (mvT hZ (hw _ (List.mem_of_getElem? (i := 114) rfl))) (hw _ (List.mem_of_getElem? (i := 115) rfl)) (hw _ (List.mem_of_getElem? (i := 116) rfl)) (hw _ (List.mem_of_getElem? (i := 117) rfl)) (hw _ (List.mem_of_getElem? (i := 118) rfl)) (hw _ (List.mem_of_getElem? (i := 96) rfl)) (hw _ (List.mem_of_getElem? (i := 13) rfl)) (hw _ (List.mem_of_getElem? (i := 119) rfl)) (by decide) (rmA1 l Z a0 hw ls b8 T31.heap n0 dz fz gl z41 f34 S0 A0 f36 f37 f38 f39 I3) rfl f36 (by decide) (by decide) (by rw [hml]; rfl) pd_8 rfl rfl rfl (Nat.le_of_eq rfl) d8_20 rfl (by decide) (by decide) ?_
  rintro r42 T43 L44 X45 ⟨rfl, N4, K4, E4, F9⟩
  show Go p e below _ (T43.setTop (mkF m 25 #[.val (.ref a), .val (.int x1), .val (.ref sa)] [(.int (1 : Int32))]))
  refine Go.pop (pc' := 26) X45 hx hby d8_25 rfl rfl ?_
  exact Go.ret0 X45 hx hby hlk hret d8_26 (by decide) (by decide) ⟨rfl, Fr.app (Fr.app (Fr.nil _) N2) N4, K3.trans K4 (allS (Or.inl (List.mem_singleton.mpr rfl)) all0), E4, F9⟩
theorem d11_0 : decode jdk_21_method_9_code 0 = .ok (.iload_n 0, 1) := by decide +kernel
theorem d11_1 : decode jdk_21_method_9_code 1 = .ok (.iload_n 1, 1) := by decide +kernel
theorem d11_2 : decode jdk_21_method_9_code 2 = .ok (.isub, 1) := by decide +kernel
theorem d11_3 : decode jdk_21_method_9_code 3 = .ok (.dup, 1) := by decide +kernel
theorem d11_4 : decode jdk_21_method_9_code 4 = .ok (.istore_n 0, 1) := by decide +kernel
theorem d11_5 : decode jdk_21_method_9_code 5 = .ok (.ifCond .ge 7, 3) := by decide +kernel
theorem d11_8 : decode jdk_21_method_9_code 8 = .ok (.iload_n 0, 1) := by decide +kernel
theorem d11_9 : decode jdk_21_method_9_code 9 = .ok (.iload_n 2, 1) := by decide +kernel
theorem d11_10 : decode jdk_21_method_9_code 10 = .ok (.iadd, 1) := by decide +kernel
theorem d11_11 : decode jdk_21_method_9_code 11 = .ok (.istore_n 0, 1) := by decide +kernel
theorem d11_12 : decode jdk_21_method_9_code 12 = .ok (.iload_n 0, 1) := by decide +kernel
theorem d11_13 : decode jdk_21_method_9_code 13 = .ok (.ireturn, 1) := by decide +kernel
theorem ef_11 (m : MethodId) (x0 : Int32) (x1 : Int32) (x2 : Int32) : entryFrame m #[(.int x0), (.int x1), (.int x2)] 3 = mkF m 0 #[.val (.int x0), .val (.int x1), .val (.int x2)] [] := by first | (simp [entryFrame, mkF, argsToLocals, Value.category]; done) | rfl
set_option maxRecDepth 65536 in
set_option maxHeartbeats 40000000 in
theorem rmSB (l : Launch) (Z : State) (a0 : Array Value) (hw : ∀ d ∈ tables_1, d.before a0 Z = true) (x0 : Int32) (x1 : Int32) (x2 : Int32) (h0 : Heap) (q0 : x0 = 0) (q1 : x1 = 0) :
    Con l Z (⟨"java/util/ArrayDeque", "sub", "(III)I"⟩ : MethodName) jdk_21_method_9_code 3 (some .int) [] ({ frames := 0, cells := 0, slots := 0, locals := 0 } : Room) #[(.int x0), (.int x1), (.int x2)] h0 (PQ (some (.int 0)) h0) := by
  refine Con.of (plainFor_of_name pn_ArrayDeque) ?_
  intro p e s m below meth c s₁ hx hby hml hown hnm hret hlk hZ X0 e0
  refine Go.cast (ef_11 m x0 x1 x2) ?_
  replace hown : s.vm.findClass "java/util/ArrayDeque" = some m.cls := hown
  subst q0 q1
  show Go p e below _ (s₁.setTop (mkF m 0 #[.val (.int (0 : Int32)), .val (.int (0 : Int32)), .val (.int x2)] []))
  refine Go.iloadN (pc' := 1) X0 hx hby d11_0 rfl rfl ?_
  refine Go.iloadN (pc' := 2) X0 hx hby d11_1 rfl rfl ?_
  refine Go.isub (pc' := 3) X0 hx hby d11_2 rfl ?_
  refine Go.dup (pc' := 4) X0 hx hby d11_3 rfl rfl ?_
  refine Go.istoreN (Ls' := #[.val (.int ((0 : Int32) - (0 : Int32))), .val (.int (0 : Int32)), .val (.int x2)]) (pc' := 5) X0 hx hby d11_4 rfl rfl ?_
  refine Go.ifY (pc' := 12) X0 hx hby d11_5 (by decide) (by decide) (show 0 ≤ ((0 : Int32) - (0 : Int32)) from by decide) ?_
  refine Go.iloadN (pc' := 13) X0 hx hby d11_12 rfl rfl ?_
  exact Go.retI X0 hx hby hlk hret d11_13 (by decide) (by decide) ⟨rfl, rfl, e0⟩
theorem d10_0 : decode jdk_21_method_37_code 0 = .ok (.aload_n 0, 1) := by decide +kernel
theorem d10_1 : decode jdk_21_method_37_code 1 = .ok (.getfield 20, 3) := by decide +kernel
theorem d10_4 : decode jdk_21_method_37_code 4 = .ok (.aload_n 0, 1) := by decide +kernel
theorem d10_5 : decode jdk_21_method_37_code 5 = .ok (.getfield 24, 3) := by decide +kernel
theorem d10_8 : decode jdk_21_method_37_code 8 = .ok (.aload_n 0, 1) := by decide +kernel
theorem d10_9 : decode jdk_21_method_37_code 9 = .ok (.getfield 3, 3) := by decide +kernel
theorem d10_12 : decode jdk_21_method_37_code 12 = .ok (.arraylength, 1) := by decide +kernel
theorem d10_13 : decode jdk_21_method_37_code 13 = .ok (.invokestatic 127, 3) := by decide +kernel
theorem d10_16 : decode jdk_21_method_37_code 16 = .ok (.ireturn, 1) := by decide +kernel
theorem ef_10 (m : MethodId) (x0 : Addr) : entryFrame m #[(.ref x0)] 1 = mkF m 0 #[.val (.ref x0)] [] := by first | (simp [entryFrame, mkF, argsToLocals, Value.category]; done) | rfl
set_option maxRecDepth 65536 in
set_option maxHeartbeats 40000000 in
theorem rmDS (l : Launch) (Z : State) (a0 : Array Value) (hw : ∀ d ∈ tables_1, d.before a0 Z = true) (a : Addr) (h0 : Heap) (b : Addr) (F1 : Fld Z h0 a "java/util/ArrayDeque" "tail" "I" (.int 0)) (F2 : Fld Z h0 a "java/util/ArrayDeque" "head" "I" (.int 0)) (F3 : Fld Z h0 a "java/util/ArrayDeque" "elements" "[Ljava/lang/Object;" (.ref b)) (A0 : Ar Z h0 b (.object "java/lang/Object") 17 (fun _ => .null)) :
    Con l Z (⟨"java/util/ArrayDeque", "size", "()I"⟩ : MethodName) jdk_21_method_37_code 1 (some .int) [] ({ frames := 1, cells := 0, slots := 0, locals := 14 } : Room) #[(.ref a)] h0 (PQ (some (.int 0)) h0) := by
  refine Con.of (plainFor_of_name pn_ArrayDeque) ?_
  intro p e s m below meth c s₁ hx hby hml hown hnm hret hlk hZ X0 e0
  refine Go.cast (ef_10 m a) ?_
  replace hown : s.vm.findClass "java/util/ArrayDeque" = some m.cls := hown
  refine Go.aloadN (pc' := 1) X0 hx hby d10_0 rfl rfl rfl ?_
  refine Go.getF (pc' := 4) X0 hx hby hZ hown (hw _ (List.mem_of_getElem? (i := 82) rfl)) Via.refl e0 F1 d10_1 rfl ?_
  intro T1 X2 e3
  refine Go.aloadN (pc' := 5) X2 hx hby d10_4 rfl rfl rfl ?_
  refine Go.getF (pc' := 8) X2 hx hby hZ hown (hw _ (List.mem_of_getElem? (i := 84) rfl)) Via.refl e3 F2 d10_5 rfl ?_
  intro T4 X5 e6
  refine Go.aloadN (pc' := 9) X5 hx hby d10_8 rfl rfl rfl ?_
  refine Go.getF (pc' := 12) X5 hx hby hZ hown (hw _ (List.mem_of_getElem? (i := 47) rfl)) Via.refl e6 F3 d10_9 rfl ?_
  intro T7 X8 e9
  refine Go.alen (pc' := 13) (zv := (17 : Int32)) X8 hx hby hZ e9 A0 d10_12 rfl (by decide) ?_
  refine Go.callS (pc' := 16) (W := 0) (argsL := [(.int (0 : Int32)), (.int (0 : Int32)), (.int (17 : Int32))]) (rest := []) X8 hx hby hZ hown (hw _ (List.mem_of_getElem? (i := 86) rfl)) (hw _ (List.mem_of_getElem? (i := 87) rfl)) (hw _ (List.mem_of_getElem? (i := 39) rfl)) (hw _ (List.mem_of_getElem? (i := 88) rfl)) (by decide) (rmSB l Z a0 hw 0 0 17 h0 rfl rfl) e9 (by decide) (by decide) (by rw [hml]; rfl) pd_6 rfl rfl rfl (Nat.le_of_eq rfl) d10_13 rfl (by decide) (by decide) ?_
  rintro r10 T11 L12 X13 ⟨rfl, rfl, e15⟩
  rw [List.append_nil] at X13
  show Go p e below _ (T11.setTop (mkF m 16 #[.val (.ref a)] [(.int (0 : Int32))]))
  exact Go.retI X13 hx hby hlk hret d10_16 (by decide) (by decide) ⟨rfl, rfl, e15⟩
theorem d12_0 : decode jdk_38_method_8_code 0 = .ok (.aload_n 0, 1) := by decide +kernel
theorem d12_1 : decode jdk_38_method_8_code 1 = .ok (.getfield 48, 3) := by decide +kernel
theorem d12_4 : decode jdk_38_method_8_code 4 = .ok (.ireturn, 1) := by decide +kernel
theorem ef_12 (m : MethodId) (x0 : Addr) : entryFrame m #[(.ref x0)] 1 = mkF m 0 #[.val (.ref x0)] [] := by first | (simp [entryFrame, mkF, argsToLocals, Value.category]; done) | rfl
set_option maxRecDepth 65536 in
set_option maxHeartbeats 40000000 in
theorem rmLS (l : Launch) (Z : State) (a0 : Array Value) (hw : ∀ d ∈ tables_1, d.before a0 Z = true) (a : Addr) (h0 : Heap) (n : Int32) (F1 : Fld Z h0 a "java/util/ArrayList" "size" "I" (.int n)) :
    Con l Z (⟨"java/util/ArrayList", "size", "()I"⟩ : MethodName) jdk_38_method_8_code 1 (some .int) [] ({ frames := 0, cells := 0, slots := 0, locals := 0 } : Room) #[(.ref a)] h0 (PQ (some (.int n)) h0) := by
  refine Con.of (plainFor_of_name pn_ArrayList) ?_
  intro p e s m below meth c s₁ hx hby hml hown hnm hret hlk hZ X0 e0
  refine Go.cast (ef_12 m a) ?_
  replace hown : s.vm.findClass "java/util/ArrayList" = some m.cls := hown
  refine Go.aloadN (pc' := 1) X0 hx hby d12_0 rfl rfl rfl ?_
  refine Go.getF (pc' := 4) X0 hx hby hZ hown (hw _ (List.mem_of_getElem? (i := 98) rfl)) Via.refl e0 F1 d12_1 rfl ?_
  intro T1 X2 e3
  exact Go.retI X2 hx hby hlk hret d12_4 (by decide) (by decide) ⟨rfl, rfl, e3⟩
theorem d9_0 : decode prog_18_method_6_code 0 = .ok (.aload_n 0, 1) := by decide +kernel
theorem d9_1 : decode prog_18_method_6_code 1 = .ok (.getfield 19, 3) := by decide +kernel
theorem d9_4 : decode prog_18_method_6_code 4 = .ok (.invokeinterface 53 1, 5) := by decide +kernel
theorem d9_9 : decode prog_18_method_6_code 9 = .ok (.aload_n 0, 1) := by decide +kernel
theorem d9_10 : decode prog_18_method_6_code 10 = .ok (.getfield 10, 3) := by decide +kernel
theorem d9_13 : decode prog_18_method_6_code 13 = .ok (.invokeinterface 59 1, 5) := by decide +kernel
theorem d9_18 : decode prog_18_method_6_code 18 = .ok (.iadd, 1) := by decide +kernel
theorem d9_19 : decode prog_18_method_6_code 19 = .ok (.ireturn, 1) := by decide +kernel
theorem ef_9 (m : MethodId) (x0 : Addr) : entryFrame m #[(.ref x0)] 1 = mkF m 0 #[.val (.ref x0)] [] := by first | (simp [entryFrame, mkF, argsToLocals, Value.category]; done) | rfl
set_option maxRecDepth 65536 in
set_option maxHeartbeats 40000000 in
theorem rmEL (l : Launch) (Z : State) (a0 : Array Value) (hw : ∀ d ∈ tables_1, d.before a0 Z = true) (a : Addr) (h0 : Heap) (n : Int32) (ls de ee : Addr) (F1 : Fld Z h0 a "com/example/minos/minos/io/zip/WinZipAesKeys" "pending" "Ljava/util/List;" (.ref ls)) (F2 : Fld Z h0 a "com/example/minos/minos/io/zip/WinZipAesKeys" "expected" "Ljava/util/Deque;" (.ref de)) (E3 : Exa Z h0 ls "java/util/ArrayList") (F4 : Fld Z h0 ls "java/util/ArrayList" "size" "I" (.int n)) (E5 : Exa Z h0 de "java/util/ArrayDeque") (F6 : Fld Z h0 de "java/util/ArrayDeque" "tail" "I" (.int 0)) (F7 : Fld Z h0 de "java/util/ArrayDeque" "head" "I" (.int 0)) (F8 : Fld Z h0 de "java/util/ArrayDeque" "elements" "[Ljava/lang/Object;" (.ref ee)) (A0 : Ar Z h0 ee (.object "java/lang/Object") 17 (fun _ => .null)) :
    Con l Z (⟨"com/example/minos/minos/io/zip/WinZipAesKeys", "expectedLeft", "()I"⟩ : MethodName) prog_18_method_6_code 1 (some .int) [] ({ frames := 2, cells := 0, slots := 0, locals := 27 } : Room) #[(.ref a)] h0 (PQ (some (.int (0 + n))) h0) := by
  refine Con.of (plainFor_of_name pn_WinZipAesKeys) ?_
  intro p e s m below meth c s₁ hx hby hml hown hnm hret hlk hZ X0 e0
  refine Go.cast (ef_9 m a) ?_
  replace hown : s.vm.findClass "com/example/minos/minos/io/zip/WinZipAesKeys" = some m.cls := hown
  refine Go.aloadN (pc' := 1) X0 hx hby d9_0 rfl rfl rfl ?_
  refine Go.getF (pc' := 4) X0 hx hby hZ hown (hw _ (List.mem_of_getElem? (i := 49) rfl)) Via.refl e0 F2 d9_1 rfl ?_
  intro T1 X2 e3
  refine Go.callF (C := "java/util/ArrayDeque") (pc' := 9) (a := de) (W := 0) (argsL := []) (rest := []) X2 hx hby hZ hown (hw _ (List.mem_of_getElem? (i := 73) rfl)) (hw _ (List.mem_of_getElem? (i := 74) rfl)) (mvT hZ (hw _ (List.mem_of_getElem? (i := 75) rfl))) (hw _ (List.mem_of_getElem? (i := 76) rfl)) (hw _ (List.mem_of_getElem? (i := 77) rfl)) (hw _ (List.mem_of_getElem? (i := 78) rfl)) (hw _ (List.mem_of_getElem? (i := 79) rfl)) (hw _ (List.mem_of_getElem? (i := 80) rfl)) (hw _ (List.mem_of_getElem? (i := 39) rfl)) (hw _ (List.mem_of_getElem? (i := 81) rfl)) (by decide) (rmDS l Z a0 hw de h0 ee F6 F7 F8 A0) e3 E5 (by decide) (by decide) (by rw [hml]; rfl) pd_0 rfl rfl rfl (Nat.le_of_eq rfl) d9_4 rfl (by decide) (by decide) ?_
  rintro r4 T5 L6 X7 ⟨rfl, rfl, e1⟩
  rw [List.append_nil] at X7
  show Go p e below _ (T5.setTop (mkF m 9 #[.val (.ref a)] [(.int (0 : Int32))]))
  refine Go.aloadN (pc' := 10) X7 hx hby d9_9 rfl rfl rfl ?_
  refine Go.getF (pc' := 13) X7 hx hby hZ hown (hw _ (List.mem_of_getElem? (i := 35) rfl)) Via.refl e1 F1 d9_10 rfl ?_
  intro T8 X9 e10
  refine Go.callF (C := "java/util/ArrayList") (pc' := 18) (a := ls) (W := 1) (argsL := []) (rest := [(.int (0 : Int32))]) X9 hx hby hZ hown (hw _ (List.mem_of_getElem? (i := 89) rfl)) (hw _ (List.mem_of_getElem? (i := 90) rfl)) (mvT hZ (hw _ (List.mem_of_getElem? (i := 91) rfl))) (hw _ (List.mem_of_getElem? (i := 92) rfl)) (hw _ (List.mem_of_getElem? (i := 93) rfl)) (hw _ (List.mem_of_getElem? (i := 94) rfl)) (hw _ (List.mem_of_getElem? (i := 95) rfl)) (hw _ (List.mem_of_getElem? (i := 96) rfl)) (hw _ (List.mem_of_getElem? (i := 13) rfl)) (hw _ (List.mem_of_getElem? (i := 97) rfl)) (by decide) (rmLS l Z a0 hw ls h0 n F4) e10 E3 (by decide) (by decide) (by rw [hml]; rfl) pd_0 rfl rfl rfl (Nat.le_of_eq rfl) d9_13 rfl (by decide) (by decide) ?_
  rintro r11 T12 L13 X14 ⟨rfl, rfl, e2⟩
  rw [List.append_nil] at X14
  show Go p e below _ (T12.setTop (mkF m 18 #[.val (.ref a)] [(.int n), (.int (0 : Int32))]))
  refine Go.iadd (pc' := 19) X14 hx hby d9_18 rfl ?_
  exact Go.retI X14 hx hby hlk hret d9_19 (by decide) (by decide) ⟨rfl, rfl, e2⟩
theorem ef_0 (m : MethodId) (x0 : Int32) (x1 : Int32) (x2 : Int32) (x3 : Int32) (x4 : Int32) : entryFrame m #[(.int x0), (.int x1), (.int x2), (.int x3), (.int x4)] maxLocals = mkF m 0 #[.val (.int x0), .val (.int x1), .val (.int x2), .val (.int x3), .val (.int x4), .unset, .unset, .unset, .unset, .unset, .unset, .unset, .unset, .unset, .unset] [] := by first | (simp [entryFrame, mkF, argsToLocals, Value.category, maxLocals]; done) | rfl
theorem pn_WinZipAesKeysExpectsAheadPinLaw : plainName "com/example/minos/minos/io/zip/WinZipAesKeysExpectsAheadPinLaw" = true := by first | (simp [plainName, overriddenIn]; done) | decide +kernel
set_option maxRecDepth 65536 in
set_option maxHeartbeats 40000000 in
theorem rm0 (l : Launch) (Z : State) (a0 : Array Value) (hw : ∀ d ∈ tables_1, d.before a0 Z = true) (x0 : Int32) (x1 : Int32) (x2 : Int32) (x3 : Int32) (x4 : Int32) (h0 : Heap) (dz : Addr) (fz : Int → Value) (O0 : Old Z h0.size h0) (S0 : Sta Z Z.heap "java/util/ArrayList" "DEFAULTCAPACITY_EMPTY_ELEMENTDATA" "[Ljava/lang/Object;" (.ref dz)) (A0 : Ar Z Z.heap dz (.object "java/lang/Object") 0 fz) :
    Con l Z x code maxLocals ret tables_1 room_1 #[(.int x0), (.int x1), (.int x2), (.int x3), (.int x4)] h0 (LQ h0.size) := by
  refine Con.of (plainFor_of_name pn_WinZipAesKeysExpectsAheadPinLaw) ?_
  intro p e s m below meth c s₁ hx hby hml hown hnm hret hlk hZ X0 e0
  refine Go.cast (ef_0 m x0 x1 x2 x3 x4) ?_
  change c.maxLocals = 15 at hml
  replace hown : s.vm.findClass "com/example/minos/minos/io/zip/WinZipAesKeysExpectsAheadPinLaw" = some m.cls := hown
  refine Go.iloadN (pc' := 1) X0 hx hby at_0 rfl rfl ?_
  refine Go.iconst (pc' := 2) X0 hx hby at_1 rfl (v := (1 : Int32)) (by decide) ?_
  refine Go.iand (pc' := 3) X0 hx hby at_2 rfl ?_
  refine Go.if_ (pc' := 10) (pn := 6) X0 hx hby at_3 (by decide) (by decide) rfl (fun (c1 : (x0 &&& (1 : Int32)) = 0) => ?_) (fun (c1 : ¬ ((x0 &&& (1 : Int32)) = 0)) => ?_)
  ·
    refine Go.iconst (pc' := 11) X0 hx hby at_10 rfl (v := (0 : Int32)) (by decide) ?_
    refine Go.istore (Ls' := #[.val (.int x0), .val (.int x1), .val (.int x2), .val (.int x3), .val (.int x4), .val (.int (0 : Int32)), .unset, .unset, .unset, .unset, .unset, .unset, .unset, .unset, .unset]) (pc' := 13) X0 hx hby at_11 rfl rfl ?_
    refine Go.iloadN (pc' := 14) X0 hx hby at_13 rfl rfl ?_
    refine Go.iconst (pc' := 15) X0 hx hby at_14 rfl (v := (2 : Int32)) (by decide) ?_
    refine Go.iand (pc' := 16) X0 hx hby at_15 rfl ?_
    refine Go.if_ (pc' := 23) (pn := 19) X0 hx hby at_16 (by decide) (by decide) rfl (fun (c2 : (x0 &&& (2 : Int32)) = 0) => ?_) (fun (c2 : ¬ ((x0 &&& (2 : Int32)) = 0)) => ?_)
    ·
      refine Go.iconst (pc' := 24) X0 hx hby at_23 rfl (v := (0 : Int32)) (by decide) ?_
      refine Go.istore (Ls' := #[.val (.int x0), .val (.int x1), .val (.int x2), .val (.int x3), .val (.int x4), .val (.int (0 : Int32)), .val (.int (0 : Int32)), .unset, .unset, .unset, .unset, .unset, .unset, .unset, .unset]) (pc' := 26) X0 hx hby at_24 rfl rfl ?_
      refine Go.iload (pc' := 28) X0 hx hby at_26 rfl rfl ?_
      refine Go.ifN (pc' := 31) X0 hx hby at_28 rfl (show ¬ ((0 : Int32) ≠ 0) from by decide) ?_
      refine Go.aconstNull (pc' := 32) X0 hx hby at_31 rfl ?_
      refine Go.astore (Ls' := #[.val (.int x0), .val (.int x1), .val (.int x2), .val (.int x3), .val (.int x4), .val (.int (0 : Int32)), .val (.int (0 : Int32)), .val .null, .unset, .unset, .unset, .unset, .unset, .unset, .unset]) (pc' := 34) X0 hx hby at_32 rfl rfl rfl ?_
      refine Go.goto (pc' := 65) X0 hx hby at_34 (by decide) (by decide) ?_
      refine Go.iconst (pc' := 66) X0 hx hby at_65 rfl (v := (1 : Int32)) (by decide) ?_
      refine Go.iloadN (pc' := 67) X0 hx hby at_66 rfl rfl ?_
      refine Go.ldcI (pc' := 69) X0 hx hby at_67 rfl hown (mvT hZ (hw _ (List.mem_of_getElem? (i := 0) rfl))) ?_
      refine Go.iand (pc' := 70) X0 hx hby at_69 rfl ?_
      refine Go.iconst (pc' := 71) X0 hx hby at_70 rfl (v := (3 : Int32)) (by decide) ?_
      refine Go.irem (pc' := 72) X0 hx hby at_71 rfl (by decide) ?_
      refine Go.iadd (pc' := 73) X0 hx hby at_72 rfl ?_
      refine Go.nmI (fun (st : Int32) (hst : st = (1 : Int32) + ((x3 &&& (2147483647 : Int32)) % (3 : Int32))) => ?_)
      refine Go.istore (Ls' := #[.val (.int x0), .val (.int x1), .val (.int x2), .val (.int x3), .val (.int x4), .val (.int (0 : Int32)), .val (.int (0 : Int32)), .val .null, .val (.int st), .unset, .unset, .unset, .unset, .unset, .unset]) (pc' := 75) X0 hx hby at_73 rfl rfl ?_
      refine Go.iconst (pc' := 76) X0 hx hby at_75 rfl (v := (1 : Int32)) (by decide) ?_
      refine Go.newarr (pc' := 78) (cap := 1) (z := 1) X0 hx hby hZ (hw _ (List.mem_of_getElem? (i := 1) rfl)) e0 at_76 rfl (by decide) (by decide) (by decide) (by decide) (by decide) (by decide) ?_
      intro b3 T4 h5 g6 X7 e8 E9 A10
      have g11 : h0.size ≤ b3 := by rw [g6]; exact (Nat.le_refl _)
      have f12 : Old Z h0.size h5 := O0.ext E9
      have z13 : h0.size ≤ h5.size := Nat.le_trans (Nat.le_refl _) E9.1
      have f14 : Ar Z h5 b3 .byte 1 (fun _ => (.int 0)) := A10
      show Go p e below _ (T4.setTop (mkF m 78 #[.val (.int x0), .val (.int x1), .val (.int x2), .val (.int x3), .val (.int x4), .val (.int (0 : Int32)), .val (.int (0 : Int32)), .val .null, .val (.int st), .unset, .unset, .unset, .unset, .unset, .unset] [(.ref b3)]))
      refine Go.dup (pc' := 79) X7 hx hby at_78 rfl rfl ?_
      refine Go.iconst (pc' := 80) X7 hx hby at_79 rfl (v := (0 : Int32)) (by decide) ?_
      refine Go.iload (pc' := 82) X7 hx hby at_80 rfl rfl ?_
      refine Go.i2b (pc' := 83) X7 hx hby at_82 rfl ?_
      refine Go.bastore (pc' := 84) (i := 0) X7 hx hby hZ e8 f14 at_83 rfl (by decide) (by decide) (by decide) ?_
      intro T15 h16 X17 e18 W19 A20
      have f21 : Old Z h0.size h16 := f12.wr W19 g11
      have z22 : h0.size ≤ h16.size := by rw [Wr.size W19]; exact z13
      have f23 : Ar Z h16 b3 .byte 1 (fun q => if q = 0 then (.int (nar .byte x4.toInt8.toInt32)) else (.int 0)) := A20
      have N24 : Fr h0.size _ := Fr.snoc X17 (Fr.nil _) g11
      show Go p e below _ (T15.setTop (mkF m 84 #[.val (.int x0), .val (.int x1), .val (.int x2), .val (.int x3), .val (.int x4), .val (.int (0 : Int32)), .val (.int (0 : Int32)), .val .null, .val (.int st), .unset, .unset, .unset, .unset, .unset, .unset] [(.ref b3)]))
      refine Go.astore (Ls' := #[.val (.int x0), .val (.int x1), .val (.int x2), .val (.int x3), .val (.int x4), .val (.int (0 : Int32)), .val (.int (0 : Int32)), .val .null, .val (.int st), .val (.ref b3), .unset, .unset, .unset, .unset, .unset]) (pc' := 86) X17 hx hby at_84 rfl rfl rfl ?_
      refine Go.new_ (pc' := 89) X17 hx hby hZ hown (hw _ (List.mem_of_getElem? (i := 2) rfl)) (hw _ (List.mem_of_getElem? (i := 3) rfl)) (hw _ (List.mem_of_getElem? (i := 4) rfl)) e18 at_86 rfl (by decide) (by decide) ?_
      intro b25 T26 h27 g28 X29 e30 E31 A32 D33
      have n34 : b3 ≠ b25 := Nat.ne_of_lt (by rw [g28]; exact f23.lt)
      have g35 : h0.size ≤ b25 := by rw [g28]; exact z22
      have f36 : Old Z h0.size h27 := f21.ext E31
      have f37 : Ar Z h27 b3 .byte 1 (fun q => if q = 0 then (.int (nar .byte x4.toInt8.toInt32)) else (.int 0)) := f23.ext E31
      have z38 : h0.size ≤ h27.size := Nat.le_trans z22 E31.1
      have f39 : Exa Z h27 b25 "com/example/minos/minos/io/zip/WinZipAesKeys" := A32
      have f40 : Fld Z h27 b25 "com/example/minos/minos/io/zip/WinZipAesKeys" "pending" "Ljava/util/List;" .null := D33 (Or.inr (hw _ (List.mem_of_getElem? (i := 36) rfl))) (ty := (.object "java/util/List")) (by decide)
      have f41 : Fld Z h27 b25 "com/example/minos/minos/io/zip/WinZipAesKeys" "expected" "Ljava/util/Deque;" .null := D33 (Or.inr (hw _ (List.mem_of_getElem? (i := 50) rfl))) (ty := (.object "java/util/Deque")) (by decide)
      have f42 : Fld Z h27 b25 "com/example/minos/minos/io/zip/WinZipAesKeys" "batches" "Ljava/util/Deque;" .null := D33 (Or.inr (hw _ (List.mem_of_getElem? (i := 52) rfl))) (ty := (.object "java/util/Deque")) (by decide)
      have f43 : Fld Z h27 b25 "com/example/minos/minos/io/zip/WinZipAesKeys" "inOrder" "Z" (.int 0) := D33 (Or.inl (hw _ (List.mem_of_getElem? (i := 54) rfl))) (ty := .boolean) (by decide)
      have f44 : Fld Z h27 b25 "com/example/minos/minos/io/zip/WinZipAesKeys" "password" "[C" .null := D33 (Or.inr (hw _ (List.mem_of_getElem? (i := 56) rfl))) (ty := (.array .char)) (by decide)
      show Go p e below _ (T26.setTop (mkF m 89 #[.val (.int x0), .val (.int x1), .val (.int x2), .val (.int x3), .val (.int x4), .val (.int (0 : Int32)), .val (.int (0 : Int32)), .val .null, .val (.int st), .val (.ref b3), .unset, .unset, .unset, .unset, .unset] [(.ref b25)]))
      refine Go.dup (pc' := 90) X29 hx hby at_89 rfl rfl ?_
      refine Go.aload (pc' := 92) X29 hx hby at_90 rfl rfl rfl ?_
      refine Go.callI (pc' := 95) (a := b25) (W := 1) (argsL := [.null]) (rest := [(.ref b25)]) X29 hx hby rfl hZ hown (hw _ (List.mem_of_getElem? (i := 5) rfl)) (hw _ (List.mem_of_getElem? (i := 6) rfl)) (hw _ (List.mem_of_getElem? (i := 4) rfl)) (hw _ (List.mem_of_getElem? (i := 7) rfl)) (by decide) (rmKn l Z a0 hw b25 h27 h0.size dz g35 z38 f36 S0 f39 f40 f41 f42 f43 f44) e30 (by decide) (by decide) (by rw [hml]; rfl) pd_10 rfl rfl rfl (Nat.le_of_eq rfl) at_92 rfl (by decide) (by decide) ?_
      rintro r45 T46 L47 X48 ⟨ls, de, ee, rfl, gl, gd, n1, n2, N1, K1, E1, P1, X1, I1, Q1, EL, ML, SL, DL, ED, TD, HD, LD, AD⟩
      have O1 := f36.keep K1 (allS g35 all0)
      have Z1 : h0.size ≤ T46.heap.size := Nat.le_trans z38 K1.1
      show Go p e below _ (T46.setTop (mkF m 95 #[.val (.int x0), .val (.int x1), .val (.int x2), .val (.int x3), .val (.int x4), .val (.int (0 : Int32)), .val (.int (0 : Int32)), .val .null, .val (.int st), .val (.ref b3), .unset, .unset, .unset, .unset, .unset] [(.ref b25)]))
      refine Go.astore (Ls' := #[.val (.int x0), .val (.int x1), .val (.int x2), .val (.int x3), .val (.int x4), .val (.int (0 : Int32)), .val (.int (0 : Int32)), .val .null, .val (.int st), .val (.ref b3), .val (.ref b25), .unset, .unset, .unset, .unset]) (pc' := 97) X48 hx hby at_95 rfl rfl rfl ?_
      refine Go.aload (pc' := 99) X48 hx hby at_97 rfl rfl rfl ?_
      refine Go.callV (C := "com/example/minos/minos/io/zip/WinZipAesKeys") (pc' := 102) (a := b25) (W := 0) (argsL := []) (rest := []) X48 hx hby hZ hown (hw _ (List.mem_of_getElem? (i := 57) rfl)) (hw _ (List.mem_of_getElem? (i := 58) rfl)) (notFace_of_selects (args := #[]) (mvT hZ (hw _ (List.mem_of_getElem? (i := 60) rfl)))) (hw _ (List.mem_of_getElem? (i := 60) rfl)) (hw _ (List.mem_of_getElem? (i := 59) rfl)) (hw _ (List.mem_of_getElem? (i := 4) rfl)) (hw _ (List.mem_of_getElem? (i := 61) rfl)) (by decide) (rmEn l Z a0 hw b25 _ Q1) rfl E1 (by decide) (by decide) (by rw [hml]; rfl) pd_2 rfl rfl rfl (Nat.le_of_eq rfl) at_99 rfl (by decide) (by decide) ?_
      rintro r49 T50 L51 X52 ⟨rfl, rfl, e1⟩
      rw [List.append_nil] at X52
      show Go p e below _ (T50.setTop (mkF m 102 #[.val (.int x0), .val (.int x1), .val (.int x2), .val (.int x3), .val (.int x4), .val (.int (0 : Int32)), .val (.int (0 : Int32)), .val .null, .val (.int st), .val (.ref b3), .val (.ref b25), .unset, .unset, .unset, .unset] [(.int (0 : Int32))]))
      refine Go.istore (Ls' := #[.val (.int x0), .val (.int x1), .val (.int x2), .val (.int x3), .val (.int x4), .val (.int (0 : Int32)), .val (.int (0 : Int32)), .val .null, .val (.int st), .val (.ref b3), .val (.ref b25), .val (.int (0 : Int32)), .unset, .unset, .unset]) (pc' := 104) X52 hx hby at_102 rfl rfl ?_
      refine Go.aload (pc' := 106) X52 hx hby at_104 rfl rfl rfl ?_
      refine Go.iload (pc' := 108) X52 hx hby at_106 rfl rfl ?_
      refine Go.aload (pc' := 110) X52 hx hby at_108 rfl rfl rfl ?_
      refine Go.callV (C := "com/example/minos/minos/io/zip/WinZipAesKeys") (pc' := 113) (a := b25) (W := 0) (argsL := [(.int st), (.ref b3)]) (rest := []) X52 hx hby hZ hown (hw _ (List.mem_of_getElem? (i := 62) rfl)) (hw _ (List.mem_of_getElem? (i := 63) rfl)) (notFace_of_selects (args := #[]) (mvT hZ (hw _ (List.mem_of_getElem? (i := 65) rfl)))) (hw _ (List.mem_of_getElem? (i := 65) rfl)) (hw _ (List.mem_of_getElem? (i := 64) rfl)) (hw _ (List.mem_of_getElem? (i := 4) rfl)) (hw _ (List.mem_of_getElem? (i := 66) rfl)) (by decide) (rmTn l Z a0 hw b25 st b3 _ E1 Q1) e1 E1 (by decide) (by decide) (by rw [hml]; rfl) pd_7 rfl rfl rfl (Nat.le_of_eq rfl) at_110 rfl (by decide) (by decide) ?_
      rintro r53 T54 L55 X56 ⟨rfl, rfl, e2⟩
      rw [List.append_nil] at X56
      show Go p e below _ (T54.setTop (mkF m 113 #[.val (.int x0), .val (.int x1), .val (.int x2), .val (.int x3), .val (.int x4), .val (.int (0 : Int32)), .val (.int (0 : Int32)), .val .null, .val (.int st), .val (.ref b3), .val (.ref b25), .val (.int (0 : Int32)), .unset, .unset, .unset] []))
      refine Go.aload (pc' := 115) X56 hx hby at_113 rfl rfl rfl ?_
      refine Go.callV (C := "com/example/minos/minos/io/zip/WinZipAesKeys") (pc' := 118) (a := b25) (W := 0) (argsL := []) (rest := []) X56 hx hby hZ hown (hw _ (List.mem_of_getElem? (i := 57) rfl)) (hw _ (List.mem_of_getElem? (i := 58) rfl)) (notFace_of_selects (args := #[]) (mvT hZ (hw _ (List.mem_of_getElem? (i := 60) rfl)))) (hw _ (List.mem_of_getElem? (i := 60) rfl)) (hw _ (List.mem_of_getElem? (i := 59) rfl)) (hw _ (List.mem_of_getElem? (i := 4) rfl)) (hw _ (List.mem_of_getElem? (i := 61) rfl)) (by decide) (rmEn l Z a0 hw b25 _ Q1) e2 E1 (by decide) (by decide) (by rw [hml]; rfl) pd_2 rfl rfl rfl (Nat.le_of_eq rfl) at_115 rfl (by decide) (by decide) ?_
      rintro r57 T58 L59 X60 ⟨rfl, rfl, e3⟩
      rw [List.append_nil] at X60
      show Go p e below _ (T58.setTop (mkF m 118 #[.val (.int x0), .val (.int x1), .val (.int x2), .val (.int x3), .val (.int x4), .val (.int (0 : Int32)), .val (.int (0 : Int32)), .val .null, .val (.int st), .val (.ref b3), .val (.ref b25), .val (.int (0 : Int32)), .unset, .unset, .unset] [(.int (0 : Int32))]))
      refine Go.istore (Ls' := #[.val (.int x0), .val (.int x1), .val (.int x2), .val (.int x3), .val (.int x4), .val (.int (0 : Int32)), .val (.int (0 : Int32)), .val .null, .val (.int st), .val (.ref b3), .val (.ref b25), .val (.int (0 : Int32)), .val (.int (0 : Int32)), .unset, .unset]) (pc' := 120) X60 hx hby at_118 rfl rfl ?_
      refine Go.aload (pc' := 122) X60 hx hby at_120 rfl rfl rfl ?_
      refine Go.callV (C := "com/example/minos/minos/io/zip/WinZipAesKeys") (pc' := 125) (a := b25) (W := 0) (argsL := []) (rest := []) X60 hx hby hZ hown (hw _ (List.mem_of_getElem? (i := 68) rfl)) (hw _ (List.mem_of_getElem? (i := 69) rfl)) (notFace_of_selects (args := #[]) (mvT hZ (hw _ (List.mem_of_getElem? (i := 71) rfl)))) (hw _ (List.mem_of_getElem? (i := 71) rfl)) (hw _ (List.mem_of_getElem? (i := 70) rfl)) (hw _ (List.mem_of_getElem? (i := 4) rfl)) (hw _ (List.mem_of_getElem? (i := 72) rfl)) (by decide) (rmEL l Z a0 hw b25 _ 0 ls de ee P1 X1 EL SL ED TD HD LD AD) e3 E1 (by decide) (by decide) (by rw [hml]; rfl) pd_0 rfl rfl rfl (Nat.le_of_eq rfl) at_122 rfl (by decide) (by decide) ?_
      rintro r61 T62 L63 X64 ⟨rfl, rfl, e4⟩
      rw [List.append_nil] at X64
      show Go p e below _ (T62.setTop (mkF m 125 #[.val (.int x0), .val (.int x1), .val (.int x2), .val (.int x3), .val (.int x4), .val (.int (0 : Int32)), .val (.int (0 : Int32)), .val .null, .val (.int st), .val (.ref b3), .val (.ref b25), .val (.int (0 : Int32)), .val (.int (0 : Int32)), .unset, .unset] [(.int (0 + 0))]))
      change Go p e below _ (T62.setTop (mkF m 125 #[.val (.int x0), .val (.int x1), .val (.int x2), .val (.int x3), .val (.int x4), .val (.int (0 : Int32)), .val (.int (0 : Int32)), .val .null, .val (.int st), .val (.ref b3), .val (.ref b25), .val (.int (0 : Int32)), .val (.int (0 : Int32)), .unset, .unset] [(.int (0 : Int32))]))
      refine Go.istore (Ls' := #[.val (.int x0), .val (.int x1), .val (.int x2), .val (.int x3), .val (.int x4), .val (.int (0 : Int32)), .val (.int (0 : Int32)), .val .null, .val (.int st), .val (.ref b3), .val (.ref b25), .val (.int (0 : Int32)), .val (.int (0 : Int32)), .val (.int (0 : Int32)), .unset]) (pc' := 127) X64 hx hby at_125 rfl rfl ?_
      refine Go.iload (pc' := 129) X64 hx hby at_127 rfl rfl ?_
      refine Go.ifY (pc' := 136) X64 hx hby at_129 (by decide) (by decide) (show (0 : Int32) = 0 from by decide) ?_
      refine Go.iconst (pc' := 137) X64 hx hby at_136 rfl (v := (0 : Int32)) (by decide) ?_
      refine Go.istore (Ls' := #[.val (.int x0), .val (.int x1), .val (.int x2), .val (.int x3), .val (.int x4), .val (.int (0 : Int32)), .val (.int (0 : Int32)), .val .null, .val (.int st), .val (.ref b3), .val (.ref b25), .val (.int (0 : Int32)), .val (.int (0 : Int32)), .val (.int (0 : Int32)), .val (.int (0 : Int32))]) (pc' := 139) X64 hx hby at_137 rfl rfl ?_
      refine Go.iload (pc' := 141) X64 hx hby at_139 rfl rfl ?_
      refine Go.iload (pc' := 143) X64 hx hby at_141 rfl rfl ?_
      refine Go.icmpN (pc' := 146) X64 hx hby at_143 rfl (show ¬ ((0 : Int32) ≠ (0 : Int32)) from by decide) ?_
      refine Go.iload (pc' := 148) X64 hx hby at_146 rfl rfl ?_
      refine Go.iload (pc' := 150) X64 hx hby at_148 rfl rfl ?_
      refine Go.icmpN (pc' := 153) X64 hx hby at_150 rfl (show ¬ ((0 : Int32) ≠ (0 : Int32)) from by decide) ?_
      refine Go.iload (pc' := 155) X64 hx hby at_153 rfl rfl ?_
      refine Go.iload (pc' := 157) X64 hx hby at_155 rfl rfl ?_
      refine Go.icmpN (pc' := 160) X64 hx hby at_157 rfl (show ¬ ((0 : Int32) ≠ (0 : Int32)) from by decide) ?_
      refine Go.iconst (pc' := 161) X64 hx hby at_160 rfl (v := (1 : Int32)) (by decide) ?_
      refine Go.goto (pc' := 165) X64 hx hby at_161 (by decide) (by decide) ?_
      exact Go.retZ X64 hx hby hlk hret (by simp) at_165 (by decide) (by decide) ⟨rfl, (Fr.app N24 N1)⟩
    ·
      refine Go.iconst (pc' := 20) X0 hx hby at_19 rfl (v := (1 : Int32)) (by decide) ?_
      refine Go.goto (pc' := 24) X0 hx hby at_20 (by decide) (by decide) ?_
      refine Go.istore (Ls' := #[.val (.int x0), .val (.int x1), .val (.int x2), .val (.int x3), .val (.int x4), .val (.int (0 : Int32)), .val (.int (1 : Int32)), .unset, .unset, .unset, .unset, .unset, .unset, .unset, .unset]) (pc' := 26) X0 hx hby at_24 rfl rfl ?_
      refine Go.iload (pc' := 28) X0 hx hby at_26 rfl rfl ?_
      refine Go.ifN (pc' := 31) X0 hx hby at_28 rfl (show ¬ ((0 : Int32) ≠ 0) from by decide) ?_
      refine Go.aconstNull (pc' := 32) X0 hx hby at_31 rfl ?_
      refine Go.astore (Ls' := #[.val (.int x0), .val (.int x1), .val (.int x2), .val (.int x3), .val (.int x4), .val (.int (0 : Int32)), .val (.int (1 : Int32)), .val .null, .unset, .unset, .unset, .unset, .unset, .unset, .unset]) (pc' := 34) X0 hx hby at_32 rfl rfl rfl ?_
      refine Go.goto (pc' := 65) X0 hx hby at_34 (by decide) (by decide) ?_
      refine Go.iconst (pc' := 66) X0 hx hby at_65 rfl (v := (1 : Int32)) (by decide) ?_
      refine Go.iloadN (pc' := 67) X0 hx hby at_66 rfl rfl ?_
      refine Go.ldcI (pc' := 69) X0 hx hby at_67 rfl hown (mvT hZ (hw _ (List.mem_of_getElem? (i := 0) rfl))) ?_
      refine Go.iand (pc' := 70) X0 hx hby at_69 rfl ?_
      refine Go.iconst (pc' := 71) X0 hx hby at_70 rfl (v := (3 : Int32)) (by decide) ?_
      refine Go.irem (pc' := 72) X0 hx hby at_71 rfl (by decide) ?_
      refine Go.iadd (pc' := 73) X0 hx hby at_72 rfl ?_
      refine Go.nmI (fun (st : Int32) (hst : st = (1 : Int32) + ((x3 &&& (2147483647 : Int32)) % (3 : Int32))) => ?_)
      refine Go.istore (Ls' := #[.val (.int x0), .val (.int x1), .val (.int x2), .val (.int x3), .val (.int x4), .val (.int (0 : Int32)), .val (.int (1 : Int32)), .val .null, .val (.int st), .unset, .unset, .unset, .unset, .unset, .unset]) (pc' := 75) X0 hx hby at_73 rfl rfl ?_
      refine Go.iconst (pc' := 76) X0 hx hby at_75 rfl (v := (1 : Int32)) (by decide) ?_
      refine Go.newarr (pc' := 78) (cap := 1) (z := 1) X0 hx hby hZ (hw _ (List.mem_of_getElem? (i := 1) rfl)) e0 at_76 rfl (by decide) (by decide) (by decide) (by decide) (by decide) (by decide) ?_
      intro b65 T66 h67 g68 X69 e70 E71 A72
      have g73 : h0.size ≤ b65 := by rw [g68]; exact (Nat.le_refl _)
      have f74 : Old Z h0.size h67 := O0.ext E71
      have z75 : h0.size ≤ h67.size := Nat.le_trans (Nat.le_refl _) E71.1
      have f76 : Ar Z h67 b65 .byte 1 (fun _ => (.int 0)) := A72
      show Go p e below _ (T66.setTop (mkF m 78 #[.val (.int x0), .val (.int x1), .val (.int x2), .val (.int x3), .val (.int x4), .val (.int (0 : Int32)), .val (.int (1 : Int32)), .val .null, .val (.int st), .unset, .unset, .unset, .unset, .unset, .unset] [(.ref b65)]))
      refine Go.dup (pc' := 79) X69 hx hby at_78 rfl rfl ?_
      refine Go.iconst (pc' := 80) X69 hx hby at_79 rfl (v := (0 : Int32)) (by decide) ?_
      refine Go.iload (pc' := 82) X69 hx hby at_80 rfl rfl ?_
      refine Go.i2b (pc' := 83) X69 hx hby at_82 rfl ?_
      refine Go.bastore (pc' := 84) (i := 0) X69 hx hby hZ e70 f76 at_83 rfl (by decide) (by decide) (by decide) ?_
      intro T77 h78 X79 e80 W81 A82
      have f83 : Old Z h0.size h78 := f74.wr W81 g73
      have z84 : h0.size ≤ h78.size := by rw [Wr.size W81]; exact z75
      have f85 : Ar Z h78 b65 .byte 1 (fun q => if q = 0 then (.int (nar .byte x4.toInt8.toInt32)) else (.int 0)) := A82
      have N86 : Fr h0.size _ := Fr.snoc X79 (Fr.nil _) g73
      show Go p e below _ (T77.setTop (mkF m 84 #[.val (.int x0), .val (.int x1), .val (.int x2), .val (.int x3), .val (.int x4), .val (.int (0 : Int32)), .val (.int (1 : Int32)), .val .null, .val (.int st), .unset, .unset, .unset, .unset, .unset, .unset] [(.ref b65)]))
      refine Go.astore (Ls' := #[.val (.int x0), .val (.int x1), .val (.int x2), .val (.int x3), .val (.int x4), .val (.int (0 : Int32)), .val (.int (1 : Int32)), .val .null, .val (.int st), .val (.ref b65), .unset, .unset, .unset, .unset, .unset]) (pc' := 86) X79 hx hby at_84 rfl rfl rfl ?_
      refine Go.new_ (pc' := 89) X79 hx hby hZ hown (hw _ (List.mem_of_getElem? (i := 2) rfl)) (hw _ (List.mem_of_getElem? (i := 3) rfl)) (hw _ (List.mem_of_getElem? (i := 4) rfl)) e80 at_86 rfl (by decide) (by decide) ?_
      intro b87 T88 h89 g90 X91 e92 E93 A94 D95
      have n96 : b65 ≠ b87 := Nat.ne_of_lt (by rw [g90]; exact f85.lt)
      have g97 : h0.size ≤ b87 := by rw [g90]; exact z84
      have f98 : Old Z h0.size h89 := f83.ext E93
      have f99 : Ar Z h89 b65 .byte 1 (fun q => if q = 0 then (.int (nar .byte x4.toInt8.toInt32)) else (.int 0)) := f85.ext E93
      have z100 : h0.size ≤ h89.size := Nat.le_trans z84 E93.1
      have f101 : Exa Z h89 b87 "com/example/minos/minos/io/zip/WinZipAesKeys" := A94
      have f102 : Fld Z h89 b87 "com/example/minos/minos/io/zip/WinZipAesKeys" "pending" "Ljava/util/List;" .null := D95 (Or.inr (hw _ (List.mem_of_getElem? (i := 36) rfl))) (ty := (.object "java/util/List")) (by decide)
      have f103 : Fld Z h89 b87 "com/example/minos/minos/io/zip/WinZipAesKeys" "expected" "Ljava/util/Deque;" .null := D95 (Or.inr (hw _ (List.mem_of_getElem? (i := 50) rfl))) (ty := (.object "java/util/Deque")) (by decide)
      have f104 : Fld Z h89 b87 "com/example/minos/minos/io/zip/WinZipAesKeys" "batches" "Ljava/util/Deque;" .null := D95 (Or.inr (hw _ (List.mem_of_getElem? (i := 52) rfl))) (ty := (.object "java/util/Deque")) (by decide)
      have f105 : Fld Z h89 b87 "com/example/minos/minos/io/zip/WinZipAesKeys" "inOrder" "Z" (.int 0) := D95 (Or.inl (hw _ (List.mem_of_getElem? (i := 54) rfl))) (ty := .boolean) (by decide)
      have f106 : Fld Z h89 b87 "com/example/minos/minos/io/zip/WinZipAesKeys" "password" "[C" .null := D95 (Or.inr (hw _ (List.mem_of_getElem? (i := 56) rfl))) (ty := (.array .char)) (by decide)
      show Go p e below _ (T88.setTop (mkF m 89 #[.val (.int x0), .val (.int x1), .val (.int x2), .val (.int x3), .val (.int x4), .val (.int (0 : Int32)), .val (.int (1 : Int32)), .val .null, .val (.int st), .val (.ref b65), .unset, .unset, .unset, .unset, .unset] [(.ref b87)]))
      refine Go.dup (pc' := 90) X91 hx hby at_89 rfl rfl ?_
      refine Go.aload (pc' := 92) X91 hx hby at_90 rfl rfl rfl ?_
      refine Go.callI (pc' := 95) (a := b87) (W := 1) (argsL := [.null]) (rest := [(.ref b87)]) X91 hx hby rfl hZ hown (hw _ (List.mem_of_getElem? (i := 5) rfl)) (hw _ (List.mem_of_getElem? (i := 6) rfl)) (hw _ (List.mem_of_getElem? (i := 4) rfl)) (hw _ (List.mem_of_getElem? (i := 7) rfl)) (by decide) (rmKn l Z a0 hw b87 h89 h0.size dz g97 z100 f98 S0 f101 f102 f103 f104 f105 f106) e92 (by decide) (by decide) (by rw [hml]; rfl) pd_10 rfl rfl rfl (Nat.le_of_eq rfl) at_92 rfl (by decide) (by decide) ?_
      rintro r107 T108 L109 X110 ⟨ls, de, ee, rfl, gl, gd, n1, n2, N1, K1, E1, P1, X1, I1, Q1, EL, ML, SL, DL, ED, TD, HD, LD, AD⟩
      have O1 := f98.keep K1 (allS g97 all0)
      have Z1 : h0.size ≤ T108.heap.size := Nat.le_trans z100 K1.1
      show Go p e below _ (T108.setTop (mkF m 95 #[.val (.int x0), .val (.int x1), .val (.int x2), .val (.int x3), .val (.int x4), .val (.int (0 : Int32)), .val (.int (1 : Int32)), .val .null, .val (.int st), .val (.ref b65), .unset, .unset, .unset, .unset, .unset] [(.ref b87)]))
      refine Go.astore (Ls' := #[.val (.int x0), .val (.int x1), .val (.int x2), .val (.int x3), .val (.int x4), .val (.int (0 : Int32)), .val (.int (1 : Int32)), .val .null, .val (.int st), .val (.ref b65), .val (.ref b87), .unset, .unset, .unset, .unset]) (pc' := 97) X110 hx hby at_95 rfl rfl rfl ?_
      refine Go.aload (pc' := 99) X110 hx hby at_97 rfl rfl rfl ?_
      refine Go.callV (C := "com/example/minos/minos/io/zip/WinZipAesKeys") (pc' := 102) (a := b87) (W := 0) (argsL := []) (rest := []) X110 hx hby hZ hown (hw _ (List.mem_of_getElem? (i := 57) rfl)) (hw _ (List.mem_of_getElem? (i := 58) rfl)) (notFace_of_selects (args := #[]) (mvT hZ (hw _ (List.mem_of_getElem? (i := 60) rfl)))) (hw _ (List.mem_of_getElem? (i := 60) rfl)) (hw _ (List.mem_of_getElem? (i := 59) rfl)) (hw _ (List.mem_of_getElem? (i := 4) rfl)) (hw _ (List.mem_of_getElem? (i := 61) rfl)) (by decide) (rmEn l Z a0 hw b87 _ Q1) rfl E1 (by decide) (by decide) (by rw [hml]; rfl) pd_2 rfl rfl rfl (Nat.le_of_eq rfl) at_99 rfl (by decide) (by decide) ?_
      rintro r111 T112 L113 X114 ⟨rfl, rfl, e1⟩
      rw [List.append_nil] at X114
      show Go p e below _ (T112.setTop (mkF m 102 #[.val (.int x0), .val (.int x1), .val (.int x2), .val (.int x3), .val (.int x4), .val (.int (0 : Int32)), .val (.int (1 : Int32)), .val .null, .val (.int st), .val (.ref b65), .val (.ref b87), .unset, .unset, .unset, .unset] [(.int (0 : Int32))]))
      refine Go.istore (Ls' := #[.val (.int x0), .val (.int x1), .val (.int x2), .val (.int x3), .val (.int x4), .val (.int (0 : Int32)), .val (.int (1 : Int32)), .val .null, .val (.int st), .val (.ref b65), .val (.ref b87), .val (.int (0 : Int32)), .unset, .unset, .unset]) (pc' := 104) X114 hx hby at_102 rfl rfl ?_
      refine Go.aload (pc' := 106) X114 hx hby at_104 rfl rfl rfl ?_
      refine Go.iload (pc' := 108) X114 hx hby at_106 rfl rfl ?_
      refine Go.aload (pc' := 110) X114 hx hby at_108 rfl rfl rfl ?_
      refine Go.callV (C := "com/example/minos/minos/io/zip/WinZipAesKeys") (pc' := 113) (a := b87) (W := 0) (argsL := [(.int st), (.ref b65)]) (rest := []) X114 hx hby hZ hown (hw _ (List.mem_of_getElem? (i := 62) rfl)) (hw _ (List.mem_of_getElem? (i := 63) rfl)) (notFace_of_selects (args := #[]) (mvT hZ (hw _ (List.mem_of_getElem? (i := 65) rfl)))) (hw _ (List.mem_of_getElem? (i := 65) rfl)) (hw _ (List.mem_of_getElem? (i := 64) rfl)) (hw _ (List.mem_of_getElem? (i := 4) rfl)) (hw _ (List.mem_of_getElem? (i := 66) rfl)) (by decide) (rmTn l Z a0 hw b87 st b65 _ E1 Q1) e1 E1 (by decide) (by decide) (by rw [hml]; rfl) pd_7 rfl rfl rfl (Nat.le_of_eq rfl) at_110 rfl (by decide) (by decide) ?_
      rintro r115 T116 L117 X118 ⟨rfl, rfl, e2⟩
      rw [List.append_nil] at X118
      show Go p e below _ (T116.setTop (mkF m 113 #[.val (.int x0), .val (.int x1), .val (.int x2), .val (.int x3), .val (.int x4), .val (.int (0 : Int32)), .val (.int (1 : Int32)), .val .null, .val (.int st), .val (.ref b65), .val (.ref b87), .val (.int (0 : Int32)), .unset, .unset, .unset] []))
      refine Go.aload (pc' := 115) X118 hx hby at_113 rfl rfl rfl ?_
      refine Go.callV (C := "com/example/minos/minos/io/zip/WinZipAesKeys") (pc' := 118) (a := b87) (W := 0) (argsL := []) (rest := []) X118 hx hby hZ hown (hw _ (List.mem_of_getElem? (i := 57) rfl)) (hw _ (List.mem_of_getElem? (i := 58) rfl)) (notFace_of_selects (args := #[]) (mvT hZ (hw _ (List.mem_of_getElem? (i := 60) rfl)))) (hw _ (List.mem_of_getElem? (i := 60) rfl)) (hw _ (List.mem_of_getElem? (i := 59) rfl)) (hw _ (List.mem_of_getElem? (i := 4) rfl)) (hw _ (List.mem_of_getElem? (i := 61) rfl)) (by decide) (rmEn l Z a0 hw b87 _ Q1) e2 E1 (by decide) (by decide) (by rw [hml]; rfl) pd_2 rfl rfl rfl (Nat.le_of_eq rfl) at_115 rfl (by decide) (by decide) ?_
      rintro r119 T120 L121 X122 ⟨rfl, rfl, e3⟩
      rw [List.append_nil] at X122
      show Go p e below _ (T120.setTop (mkF m 118 #[.val (.int x0), .val (.int x1), .val (.int x2), .val (.int x3), .val (.int x4), .val (.int (0 : Int32)), .val (.int (1 : Int32)), .val .null, .val (.int st), .val (.ref b65), .val (.ref b87), .val (.int (0 : Int32)), .unset, .unset, .unset] [(.int (0 : Int32))]))
      refine Go.istore (Ls' := #[.val (.int x0), .val (.int x1), .val (.int x2), .val (.int x3), .val (.int x4), .val (.int (0 : Int32)), .val (.int (1 : Int32)), .val .null, .val (.int st), .val (.ref b65), .val (.ref b87), .val (.int (0 : Int32)), .val (.int (0 : Int32)), .unset, .unset]) (pc' := 120) X122 hx hby at_118 rfl rfl ?_
      refine Go.aload (pc' := 122) X122 hx hby at_120 rfl rfl rfl ?_
      refine Go.callV (C := "com/example/minos/minos/io/zip/WinZipAesKeys") (pc' := 125) (a := b87) (W := 0) (argsL := []) (rest := []) X122 hx hby hZ hown (hw _ (List.mem_of_getElem? (i := 68) rfl)) (hw _ (List.mem_of_getElem? (i := 69) rfl)) (notFace_of_selects (args := #[]) (mvT hZ (hw _ (List.mem_of_getElem? (i := 71) rfl)))) (hw _ (List.mem_of_getElem? (i := 71) rfl)) (hw _ (List.mem_of_getElem? (i := 70) rfl)) (hw _ (List.mem_of_getElem? (i := 4) rfl)) (hw _ (List.mem_of_getElem? (i := 72) rfl)) (by decide) (rmEL l Z a0 hw b87 _ 0 ls de ee P1 X1 EL SL ED TD HD LD AD) e3 E1 (by decide) (by decide) (by rw [hml]; rfl) pd_0 rfl rfl rfl (Nat.le_of_eq rfl) at_122 rfl (by decide) (by decide) ?_
      rintro r123 T124 L125 X126 ⟨rfl, rfl, e4⟩
      rw [List.append_nil] at X126
      show Go p e below _ (T124.setTop (mkF m 125 #[.val (.int x0), .val (.int x1), .val (.int x2), .val (.int x3), .val (.int x4), .val (.int (0 : Int32)), .val (.int (1 : Int32)), .val .null, .val (.int st), .val (.ref b65), .val (.ref b87), .val (.int (0 : Int32)), .val (.int (0 : Int32)), .unset, .unset] [(.int (0 + 0))]))
      change Go p e below _ (T124.setTop (mkF m 125 #[.val (.int x0), .val (.int x1), .val (.int x2), .val (.int x3), .val (.int x4), .val (.int (0 : Int32)), .val (.int (1 : Int32)), .val .null, .val (.int st), .val (.ref b65), .val (.ref b87), .val (.int (0 : Int32)), .val (.int (0 : Int32)), .unset, .unset] [(.int (0 : Int32))]))
      refine Go.istore (Ls' := #[.val (.int x0), .val (.int x1), .val (.int x2), .val (.int x3), .val (.int x4), .val (.int (0 : Int32)), .val (.int (1 : Int32)), .val .null, .val (.int st), .val (.ref b65), .val (.ref b87), .val (.int (0 : Int32)), .val (.int (0 : Int32)), .val (.int (0 : Int32)), .unset]) (pc' := 127) X126 hx hby at_125 rfl rfl ?_
      refine Go.iload (pc' := 129) X126 hx hby at_127 rfl rfl ?_
      refine Go.ifY (pc' := 136) X126 hx hby at_129 (by decide) (by decide) (show (0 : Int32) = 0 from by decide) ?_
      refine Go.iconst (pc' := 137) X126 hx hby at_136 rfl (v := (0 : Int32)) (by decide) ?_
      refine Go.istore (Ls' := #[.val (.int x0), .val (.int x1), .val (.int x2), .val (.int x3), .val (.int x4), .val (.int (0 : Int32)), .val (.int (1 : Int32)), .val .null, .val (.int st), .val (.ref b65), .val (.ref b87), .val (.int (0 : Int32)), .val (.int (0 : Int32)), .val (.int (0 : Int32)), .val (.int (0 : Int32))]) (pc' := 139) X126 hx hby at_137 rfl rfl ?_
      refine Go.iload (pc' := 141) X126 hx hby at_139 rfl rfl ?_
      refine Go.iload (pc' := 143) X126 hx hby at_141 rfl rfl ?_
      refine Go.icmpN (pc' := 146) X126 hx hby at_143 rfl (show ¬ ((0 : Int32) ≠ (0 : Int32)) from by decide) ?_
      refine Go.iload (pc' := 148) X126 hx hby at_146 rfl rfl ?_
      refine Go.iload (pc' := 150) X126 hx hby at_148 rfl rfl ?_
      refine Go.icmpN (pc' := 153) X126 hx hby at_150 rfl (show ¬ ((0 : Int32) ≠ (0 : Int32)) from by decide) ?_
      refine Go.iload (pc' := 155) X126 hx hby at_153 rfl rfl ?_
      refine Go.iload (pc' := 157) X126 hx hby at_155 rfl rfl ?_
      refine Go.icmpN (pc' := 160) X126 hx hby at_157 rfl (show ¬ ((0 : Int32) ≠ (0 : Int32)) from by decide) ?_
      refine Go.iconst (pc' := 161) X126 hx hby at_160 rfl (v := (1 : Int32)) (by decide) ?_
      refine Go.goto (pc' := 165) X126 hx hby at_161 (by decide) (by decide) ?_
      exact Go.retZ X126 hx hby hlk hret (by simp) at_165 (by decide) (by decide) ⟨rfl, (Fr.app N86 N1)⟩
  ·
    refine Go.iconst (pc' := 7) X0 hx hby at_6 rfl (v := (1 : Int32)) (by decide) ?_
    refine Go.goto (pc' := 11) X0 hx hby at_7 (by decide) (by decide) ?_
    refine Go.istore (Ls' := #[.val (.int x0), .val (.int x1), .val (.int x2), .val (.int x3), .val (.int x4), .val (.int (1 : Int32)), .unset, .unset, .unset, .unset, .unset, .unset, .unset, .unset, .unset]) (pc' := 13) X0 hx hby at_11 rfl rfl ?_
    refine Go.iloadN (pc' := 14) X0 hx hby at_13 rfl rfl ?_
    refine Go.iconst (pc' := 15) X0 hx hby at_14 rfl (v := (2 : Int32)) (by decide) ?_
    refine Go.iand (pc' := 16) X0 hx hby at_15 rfl ?_
    refine Go.if_ (pc' := 23) (pn := 19) X0 hx hby at_16 (by decide) (by decide) rfl (fun (c127 : (x0 &&& (2 : Int32)) = 0) => ?_) (fun (c127 : ¬ ((x0 &&& (2 : Int32)) = 0)) => ?_)
    ·
      refine Go.iconst (pc' := 24) X0 hx hby at_23 rfl (v := (0 : Int32)) (by decide) ?_
      refine Go.istore (Ls' := #[.val (.int x0), .val (.int x1), .val (.int x2), .val (.int x3), .val (.int x4), .val (.int (1 : Int32)), .val (.int (0 : Int32)), .unset, .unset, .unset, .unset, .unset, .unset, .unset, .unset]) (pc' := 26) X0 hx hby at_24 rfl rfl ?_
      refine Go.iload (pc' := 28) X0 hx hby at_26 rfl rfl ?_
      refine Go.ifY (pc' := 37) X0 hx hby at_28 (by decide) (by decide) (show (1 : Int32) ≠ 0 from by decide) ?_
      refine Go.iload (pc' := 39) X0 hx hby at_37 rfl rfl ?_
      refine Go.ifY (pc' := 50) X0 hx hby at_39 (by decide) (by decide) (show (0 : Int32) = 0 from by decide) ?_
      refine Go.iconst (pc' := 51) X0 hx hby at_50 rfl (v := (2 : Int32)) (by decide) ?_
      refine Go.newarr (pc' := 53) (cap := 2) (z := 2) X0 hx hby hZ (hw _ (List.mem_of_getElem? (i := 100) rfl)) e0 at_51 rfl (by decide) (by decide) (by decide) (by decide) (by decide) (by decide) ?_
      intro b128 T129 h130 g131 X132 e133 E134 A135
      have g136 : h0.size ≤ b128 := by rw [g131]; exact (Nat.le_refl _)
      have f137 : Old Z h0.size h130 := O0.ext E134
      have z138 : h0.size ≤ h130.size := Nat.le_trans (Nat.le_refl _) E134.1
      have f139 : Ar Z h130 b128 .char 2 (fun _ => (.int 0)) := A135
      show Go p e below _ (T129.setTop (mkF m 53 #[.val (.int x0), .val (.int x1), .val (.int x2), .val (.int x3), .val (.int x4), .val (.int (1 : Int32)), .val (.int (0 : Int32)), .unset, .unset, .unset, .unset, .unset, .unset, .unset, .unset] [(.ref b128)]))
      refine Go.dup (pc' := 54) X132 hx hby at_53 rfl rfl ?_
      refine Go.iconst (pc' := 55) X132 hx hby at_54 rfl (v := (0 : Int32)) (by decide) ?_
      refine Go.iloadN (pc' := 56) X132 hx hby at_55 rfl rfl ?_
      refine Go.i2c (pc' := 57) X132 hx hby at_56 rfl ?_
      refine Go.castore (pc' := 58) (i := 0) X132 hx hby hZ e133 f139 at_57 rfl (by decide) (by decide) (by decide) ?_
      intro T140 h141 X142 e143 W144 A145
      have f146 : Old Z h0.size h141 := f137.wr W144 g136
      have z147 : h0.size ≤ h141.size := by rw [Wr.size W144]; exact z138
      have f148 : Ar Z h141 b128 .char 2 (fun q => if q = 0 then (.int (nar .char x1.toUInt32.toUInt16.toUInt32.toInt32)) else (.int 0)) := A145
      have N149 : Fr h0.size _ := Fr.snoc X142 (Fr.nil _) g136
      show Go p e below _ (T140.setTop (mkF m 58 #[.val (.int x0), .val (.int x1), .val (.int x2), .val (.int x3), .val (.int x4), .val (.int (1 : Int32)), .val (.int (0 : Int32)), .unset, .unset, .unset, .unset, .unset, .unset, .unset, .unset] [(.ref b128)]))
      refine Go.dup (pc' := 59) X142 hx hby at_58 rfl rfl ?_
      refine Go.iconst (pc' := 60) X142 hx hby at_59 rfl (v := (1 : Int32)) (by decide) ?_
      refine Go.iloadN (pc' := 61) X142 hx hby at_60 rfl rfl ?_
      refine Go.i2c (pc' := 62) X142 hx hby at_61 rfl ?_
      refine Go.castore (pc' := 63) (i := 1) X142 hx hby hZ e143 f148 at_62 rfl (by decide) (by decide) (by decide) ?_
      intro T150 h151 X152 e153 W154 A155
      have f156 : Old Z h0.size h151 := f146.wr W154 g136
      have z157 : h0.size ≤ h151.size := by rw [Wr.size W154]; exact z147
      have f158 : Ar Z h151 b128 .char 2 (fun q => if q = 1 then (.int (nar .char x2.toUInt32.toUInt16.toUInt32.toInt32)) else if q = 0 then (.int (nar .char x1.toUInt32.toUInt16.toUInt32.toInt32)) else (.int 0)) := A155
      have N159 : Fr h0.size _ := Fr.snoc X152 N149 g136
      show Go p e below _ (T150.setTop (mkF m 63 #[.val (.int x0), .val (.int x1), .val (.int x2), .val (.int x3), .val (.int x4), .val (.int (1 : Int32)), .val (.int (0 : Int32)), .unset, .unset, .unset, .unset, .unset, .unset, .unset, .unset] [(.ref b128)]))
      refine Go.astore (Ls' := #[.val (.int x0), .val (.int x1), .val (.int x2), .val (.int x3), .val (.int x4), .val (.int (1 : Int32)), .val (.int (0 : Int32)), .val (.ref b128), .unset, .unset, .unset, .unset, .unset, .unset, .unset]) (pc' := 65) X152 hx hby at_63 rfl rfl rfl ?_
      refine Go.iconst (pc' := 66) X152 hx hby at_65 rfl (v := (1 : Int32)) (by decide) ?_
      refine Go.iloadN (pc' := 67) X152 hx hby at_66 rfl rfl ?_
      refine Go.ldcI (pc' := 69) X152 hx hby at_67 rfl hown (mvT hZ (hw _ (List.mem_of_getElem? (i := 0) rfl))) ?_
      refine Go.iand (pc' := 70) X152 hx hby at_69 rfl ?_
      refine Go.iconst (pc' := 71) X152 hx hby at_70 rfl (v := (3 : Int32)) (by decide) ?_
      refine Go.irem (pc' := 72) X152 hx hby at_71 rfl (by decide) ?_
      refine Go.iadd (pc' := 73) X152 hx hby at_72 rfl ?_
      refine Go.nmI (fun (st : Int32) (hst : st = (1 : Int32) + ((x3 &&& (2147483647 : Int32)) % (3 : Int32))) => ?_)
      refine Go.istore (Ls' := #[.val (.int x0), .val (.int x1), .val (.int x2), .val (.int x3), .val (.int x4), .val (.int (1 : Int32)), .val (.int (0 : Int32)), .val (.ref b128), .val (.int st), .unset, .unset, .unset, .unset, .unset, .unset]) (pc' := 75) X152 hx hby at_73 rfl rfl ?_
      refine Go.iconst (pc' := 76) X152 hx hby at_75 rfl (v := (1 : Int32)) (by decide) ?_
      refine Go.newarr (pc' := 78) (cap := 1) (z := 1) X152 hx hby hZ (hw _ (List.mem_of_getElem? (i := 1) rfl)) e153 at_76 rfl (by decide) (by decide) (by decide) (by decide) (by decide) (by decide) ?_
      intro b160 T161 h162 g163 X164 e165 E166 A167
      have n168 : b128 ≠ b160 := Nat.ne_of_lt (by rw [g163]; exact f158.lt)
      have g169 : h0.size ≤ b160 := by rw [g163]; exact z157
      have f170 : Old Z h0.size h162 := f156.ext E166
      have f171 : Ar Z h162 b128 .char 2 (fun q => if q = 1 then (.int (nar .char x2.toUInt32.toUInt16.toUInt32.toInt32)) else if q = 0 then (.int (nar .char x1.toUInt32.toUInt16.toUInt32.toInt32)) else (.int 0)) := f158.ext E166
      have z172 : h0.size ≤ h162.size := Nat.le_trans z157 E166.1
      have f173 : Ar Z h162 b160 .byte 1 (fun _ => (.int 0)) := A167
      show Go p e below _ (T161.setTop (mkF m 78 #[.val (.int x0), .val (.int x1), .val (.int x2), .val (.int x3), .val (.int x4), .val (.int (1 : Int32)), .val (.int (0 : Int32)), .val (.ref b128), .val (.int st), .unset, .unset, .unset, .unset, .unset, .unset] [(.ref b160)]))
      refine Go.dup (pc' := 79) X164 hx hby at_78 rfl rfl ?_
      refine Go.iconst (pc' := 80) X164 hx hby at_79 rfl (v := (0 : Int32)) (by decide) ?_
      refine Go.iload (pc' := 82) X164 hx hby at_80 rfl rfl ?_
      refine Go.i2b (pc' := 83) X164 hx hby at_82 rfl ?_
      refine Go.bastore (pc' := 84) (i := 0) X164 hx hby hZ e165 f173 at_83 rfl (by decide) (by decide) (by decide) ?_
      intro T174 h175 X176 e177 W178 A179
      have f180 : Old Z h0.size h175 := f170.wr W178 g169
      have f181 : Ar Z h175 b128 .char 2 (fun q => if q = 1 then (.int (nar .char x2.toUInt32.toUInt16.toUInt32.toInt32)) else if q = 0 then (.int (nar .char x1.toUInt32.toUInt16.toUInt32.toInt32)) else (.int 0)) := f171.other W178 n168
      have z182 : h0.size ≤ h175.size := by rw [Wr.size W178]; exact z172
      have f183 : Ar Z h175 b160 .byte 1 (fun q => if q = 0 then (.int (nar .byte x4.toInt8.toInt32)) else (.int 0)) := A179
      have N184 : Fr h0.size _ := Fr.snoc X176 N159 g169
      show Go p e below _ (T174.setTop (mkF m 84 #[.val (.int x0), .val (.int x1), .val (.int x2), .val (.int x3), .val (.int x4), .val (.int (1 : Int32)), .val (.int (0 : Int32)), .val (.ref b128), .val (.int st), .unset, .unset, .unset, .unset, .unset, .unset] [(.ref b160)]))
      refine Go.astore (Ls' := #[.val (.int x0), .val (.int x1), .val (.int x2), .val (.int x3), .val (.int x4), .val (.int (1 : Int32)), .val (.int (0 : Int32)), .val (.ref b128), .val (.int st), .val (.ref b160), .unset, .unset, .unset, .unset, .unset]) (pc' := 86) X176 hx hby at_84 rfl rfl rfl ?_
      refine Go.new_ (pc' := 89) X176 hx hby hZ hown (hw _ (List.mem_of_getElem? (i := 2) rfl)) (hw _ (List.mem_of_getElem? (i := 3) rfl)) (hw _ (List.mem_of_getElem? (i := 4) rfl)) e177 at_86 rfl (by decide) (by decide) ?_
      intro b185 T186 h187 g188 X189 e190 E191 A192 D193
      have n194 : b128 ≠ b185 := Nat.ne_of_lt (by rw [g188]; exact f181.lt)
      have n195 : b160 ≠ b185 := Nat.ne_of_lt (by rw [g188]; exact f183.lt)
      have g196 : h0.size ≤ b185 := by rw [g188]; exact z182
      have f197 : Old Z h0.size h187 := f180.ext E191
      have f198 : Ar Z h187 b128 .char 2 (fun q => if q = 1 then (.int (nar .char x2.toUInt32.toUInt16.toUInt32.toInt32)) else if q = 0 then (.int (nar .char x1.toUInt32.toUInt16.toUInt32.toInt32)) else (.int 0)) := f181.ext E191
      have f199 : Ar Z h187 b160 .byte 1 (fun q => if q = 0 then (.int (nar .byte x4.toInt8.toInt32)) else (.int 0)) := f183.ext E191
      have z200 : h0.size ≤ h187.size := Nat.le_trans z182 E191.1
      have f201 : Exa Z h187 b185 "com/example/minos/minos/io/zip/WinZipAesKeys" := A192
      have f202 : Fld Z h187 b185 "com/example/minos/minos/io/zip/WinZipAesKeys" "pending" "Ljava/util/List;" .null := D193 (Or.inr (hw _ (List.mem_of_getElem? (i := 36) rfl))) (ty := (.object "java/util/List")) (by decide)
      have f203 : Fld Z h187 b185 "com/example/minos/minos/io/zip/WinZipAesKeys" "expected" "Ljava/util/Deque;" .null := D193 (Or.inr (hw _ (List.mem_of_getElem? (i := 50) rfl))) (ty := (.object "java/util/Deque")) (by decide)
      have f204 : Fld Z h187 b185 "com/example/minos/minos/io/zip/WinZipAesKeys" "batches" "Ljava/util/Deque;" .null := D193 (Or.inr (hw _ (List.mem_of_getElem? (i := 52) rfl))) (ty := (.object "java/util/Deque")) (by decide)
      have f205 : Fld Z h187 b185 "com/example/minos/minos/io/zip/WinZipAesKeys" "inOrder" "Z" (.int 0) := D193 (Or.inl (hw _ (List.mem_of_getElem? (i := 54) rfl))) (ty := .boolean) (by decide)
      have f206 : Fld Z h187 b185 "com/example/minos/minos/io/zip/WinZipAesKeys" "password" "[C" .null := D193 (Or.inr (hw _ (List.mem_of_getElem? (i := 56) rfl))) (ty := (.array .char)) (by decide)
      show Go p e below _ (T186.setTop (mkF m 89 #[.val (.int x0), .val (.int x1), .val (.int x2), .val (.int x3), .val (.int x4), .val (.int (1 : Int32)), .val (.int (0 : Int32)), .val (.ref b128), .val (.int st), .val (.ref b160), .unset, .unset, .unset, .unset, .unset] [(.ref b185)]))
      refine Go.dup (pc' := 90) X189 hx hby at_89 rfl rfl ?_
      refine Go.aload (pc' := 92) X189 hx hby at_90 rfl rfl rfl ?_
      refine Go.callI (pc' := 95) (a := b185) (W := 1) (argsL := [(.ref b128)]) (rest := [(.ref b185)]) X189 hx hby rfl hZ hown (hw _ (List.mem_of_getElem? (i := 5) rfl)) (hw _ (List.mem_of_getElem? (i := 6) rfl)) (hw _ (List.mem_of_getElem? (i := 4) rfl)) (hw _ (List.mem_of_getElem? (i := 7) rfl)) (by decide) (rmKr l Z a0 hw b185 b128 h187 h0.size dz g196 z200 f197 S0 f201 f202 f203 f204 f205 f206) e190 (by decide) (by decide) (by rw [hml]; rfl) pd_10 rfl rfl rfl (Nat.le_of_eq rfl) at_92 rfl (by decide) (by decide) ?_
      rintro r207 T208 L209 X210 ⟨ls, de, ee, rfl, gl, gd, n1, n2, N1, K1, E1, P1, X1, I1, Q1, EL, ML, SL, DL, ED, TD, HD, LD, AD⟩
      have O1 := f197.keep K1 (allS g196 all0)
      have Z1 : h0.size ≤ T208.heap.size := Nat.le_trans z200 K1.1
      show Go p e below _ (T208.setTop (mkF m 95 #[.val (.int x0), .val (.int x1), .val (.int x2), .val (.int x3), .val (.int x4), .val (.int (1 : Int32)), .val (.int (0 : Int32)), .val (.ref b128), .val (.int st), .val (.ref b160), .unset, .unset, .unset, .unset, .unset] [(.ref b185)]))
      refine Go.astore (Ls' := #[.val (.int x0), .val (.int x1), .val (.int x2), .val (.int x3), .val (.int x4), .val (.int (1 : Int32)), .val (.int (0 : Int32)), .val (.ref b128), .val (.int st), .val (.ref b160), .val (.ref b185), .unset, .unset, .unset, .unset]) (pc' := 97) X210 hx hby at_95 rfl rfl rfl ?_
      refine Go.aload (pc' := 99) X210 hx hby at_97 rfl rfl rfl ?_
      refine Go.callV (C := "com/example/minos/minos/io/zip/WinZipAesKeys") (pc' := 102) (a := b185) (W := 0) (argsL := []) (rest := []) X210 hx hby hZ hown (hw _ (List.mem_of_getElem? (i := 57) rfl)) (hw _ (List.mem_of_getElem? (i := 58) rfl)) (notFace_of_selects (args := #[]) (mvT hZ (hw _ (List.mem_of_getElem? (i := 60) rfl)))) (hw _ (List.mem_of_getElem? (i := 60) rfl)) (hw _ (List.mem_of_getElem? (i := 59) rfl)) (hw _ (List.mem_of_getElem? (i := 4) rfl)) (hw _ (List.mem_of_getElem? (i := 61) rfl)) (by decide) (rmEr l Z a0 hw b185 _ b128 Q1 I1) rfl E1 (by decide) (by decide) (by rw [hml]; rfl) pd_2 rfl rfl rfl (Nat.le_of_eq rfl) at_99 rfl (by decide) (by decide) ?_
      rintro r211 T212 L213 X214 ⟨rfl, rfl, e1⟩
      rw [List.append_nil] at X214
      show Go p e below _ (T212.setTop (mkF m 102 #[.val (.int x0), .val (.int x1), .val (.int x2), .val (.int x3), .val (.int x4), .val (.int (1 : Int32)), .val (.int (0 : Int32)), .val (.ref b128), .val (.int st), .val (.ref b160), .val (.ref b185), .unset, .unset, .unset, .unset] [(.int (1 : Int32))]))
      refine Go.istore (Ls' := #[.val (.int x0), .val (.int x1), .val (.int x2), .val (.int x3), .val (.int x4), .val (.int (1 : Int32)), .val (.int (0 : Int32)), .val (.ref b128), .val (.int st), .val (.ref b160), .val (.ref b185), .val (.int (1 : Int32)), .unset, .unset, .unset]) (pc' := 104) X214 hx hby at_102 rfl rfl ?_
      refine Go.aload (pc' := 106) X214 hx hby at_104 rfl rfl rfl ?_
      refine Go.iload (pc' := 108) X214 hx hby at_106 rfl rfl ?_
      refine Go.aload (pc' := 110) X214 hx hby at_108 rfl rfl rfl ?_
      refine Go.callV (C := "com/example/minos/minos/io/zip/WinZipAesKeys") (pc' := 113) (a := b185) (W := 0) (argsL := [(.int st), (.ref b160)]) (rest := []) X214 hx hby hZ hown (hw _ (List.mem_of_getElem? (i := 62) rfl)) (hw _ (List.mem_of_getElem? (i := 63) rfl)) (notFace_of_selects (args := #[]) (mvT hZ (hw _ (List.mem_of_getElem? (i := 65) rfl)))) (hw _ (List.mem_of_getElem? (i := 65) rfl)) (hw _ (List.mem_of_getElem? (i := 64) rfl)) (hw _ (List.mem_of_getElem? (i := 4) rfl)) (hw _ (List.mem_of_getElem? (i := 66) rfl)) (by decide) (rmTr l Z a0 hw b185 st b160 _ h0.size dz fz b128 ls Z1 O1 S0 A0 E1 Q1 I1 P1 gl EL SL DL ML) e1 E1 (by decide) (by decide) (by rw [hml]; rfl) pd_7 rfl rfl rfl (Nat.le_of_eq rfl) at_110 rfl (by decide) (by decide) ?_
      rintro r215 T216 L217 X218 ⟨rfl, N2, K2, EL2, SL2⟩
      show Go p e below _ (T216.setTop (mkF m 113 #[.val (.int x0), .val (.int x1), .val (.int x2), .val (.int x3), .val (.int x4), .val (.int (1 : Int32)), .val (.int (0 : Int32)), .val (.ref b128), .val (.int st), .val (.ref b160), .val (.ref b185), .val (.int (1 : Int32)), .unset, .unset, .unset] []))
      replace E1 := E1.keep K2
      replace P1 := P1.keep K2 (ninS (Ne.symm n1) nin0)
      replace X1 := X1.keep K2 (ninS (Ne.symm n1) nin0)
      replace I1 := I1.keep K2 (ninS (Ne.symm n1) nin0)
      replace Q1 := Q1.keep K2 (ninS (Ne.symm n1) nin0)
      replace ED := ED.keep K2
      replace TD := TD.keep K2 (ninS (Ne.symm n2) nin0)
      replace HD := HD.keep K2 (ninS (Ne.symm n2) nin0)
      replace LD := LD.keep K2 (ninS (Ne.symm n2) nin0)
      replace AD := AD.keep K2 (ninS (Ne.symm (own_ne EL (hw _ (List.mem_of_getElem? (i := 12) rfl)) AD)) nin0)
      clear EL SL
      have EL := EL2
      have SL := SL2
      refine Go.aload (pc' := 115) X218 hx hby at_113 rfl rfl rfl ?_
      refine Go.callV (C := "com/example/minos/minos/io/zip/WinZipAesKeys") (pc' := 118) (a := b185) (W := 0) (argsL := []) (rest := []) X218 hx hby hZ hown (hw _ (List.mem_of_getElem? (i := 57) rfl)) (hw _ (List.mem_of_getElem? (i := 58) rfl)) (notFace_of_selects (args := #[]) (mvT hZ (hw _ (List.mem_of_getElem? (i := 60) rfl)))) (hw _ (List.mem_of_getElem? (i := 60) rfl)) (hw _ (List.mem_of_getElem? (i := 59) rfl)) (hw _ (List.mem_of_getElem? (i := 4) rfl)) (hw _ (List.mem_of_getElem? (i := 61) rfl)) (by decide) (rmEr l Z a0 hw b185 _ b128 Q1 I1) rfl E1 (by decide) (by decide) (by rw [hml]; rfl) pd_2 rfl rfl rfl (Nat.le_of_eq rfl) at_115 rfl (by decide) (by decide) ?_
      rintro r219 T220 L221 X222 ⟨rfl, rfl, e3⟩
      rw [List.append_nil] at X222
      show Go p e below _ (T220.setTop (mkF m 118 #[.val (.int x0), .val (.int x1), .val (.int x2), .val (.int x3), .val (.int x4), .val (.int (1 : Int32)), .val (.int (0 : Int32)), .val (.ref b128), .val (.int st), .val (.ref b160), .val (.ref b185), .val (.int (1 : Int32)), .unset, .unset, .unset] [(.int (1 : Int32))]))
      refine Go.istore (Ls' := #[.val (.int x0), .val (.int x1), .val (.int x2), .val (.int x3), .val (.int x4), .val (.int (1 : Int32)), .val (.int (0 : Int32)), .val (.ref b128), .val (.int st), .val (.ref b160), .val (.ref b185), .val (.int (1 : Int32)), .val (.int (1 : Int32)), .unset, .unset]) (pc' := 120) X222 hx hby at_118 rfl rfl ?_
      refine Go.aload (pc' := 122) X222 hx hby at_120 rfl rfl rfl ?_
      refine Go.callV (C := "com/example/minos/minos/io/zip/WinZipAesKeys") (pc' := 125) (a := b185) (W := 0) (argsL := []) (rest := []) X222 hx hby hZ hown (hw _ (List.mem_of_getElem? (i := 68) rfl)) (hw _ (List.mem_of_getElem? (i := 69) rfl)) (notFace_of_selects (args := #[]) (mvT hZ (hw _ (List.mem_of_getElem? (i := 71) rfl)))) (hw _ (List.mem_of_getElem? (i := 71) rfl)) (hw _ (List.mem_of_getElem? (i := 70) rfl)) (hw _ (List.mem_of_getElem? (i := 4) rfl)) (hw _ (List.mem_of_getElem? (i := 72) rfl)) (by decide) (rmEL l Z a0 hw b185 _ 1 ls de ee P1 X1 EL SL ED TD HD LD AD) e3 E1 (by decide) (by decide) (by rw [hml]; rfl) pd_0 rfl rfl rfl (Nat.le_of_eq rfl) at_122 rfl (by decide) (by decide) ?_
      rintro r223 T224 L225 X226 ⟨rfl, rfl, e4⟩
      rw [List.append_nil] at X226
      show Go p e below _ (T224.setTop (mkF m 125 #[.val (.int x0), .val (.int x1), .val (.int x2), .val (.int x3), .val (.int x4), .val (.int (1 : Int32)), .val (.int (0 : Int32)), .val (.ref b128), .val (.int st), .val (.ref b160), .val (.ref b185), .val (.int (1 : Int32)), .val (.int (1 : Int32)), .unset, .unset] [(.int (0 + 1))]))
      change Go p e below _ (T224.setTop (mkF m 125 #[.val (.int x0), .val (.int x1), .val (.int x2), .val (.int x3), .val (.int x4), .val (.int (1 : Int32)), .val (.int (0 : Int32)), .val (.ref b128), .val (.int st), .val (.ref b160), .val (.ref b185), .val (.int (1 : Int32)), .val (.int (1 : Int32)), .unset, .unset] [(.int (1 : Int32))]))
      refine Go.istore (Ls' := #[.val (.int x0), .val (.int x1), .val (.int x2), .val (.int x3), .val (.int x4), .val (.int (1 : Int32)), .val (.int (0 : Int32)), .val (.ref b128), .val (.int st), .val (.ref b160), .val (.ref b185), .val (.int (1 : Int32)), .val (.int (1 : Int32)), .val (.int (1 : Int32)), .unset]) (pc' := 127) X226 hx hby at_125 rfl rfl ?_
      refine Go.iload (pc' := 129) X226 hx hby at_127 rfl rfl ?_
      refine Go.ifN (pc' := 132) X226 hx hby at_129 rfl (show ¬ ((1 : Int32) = 0) from by decide) ?_
      refine Go.iconst (pc' := 133) X226 hx hby at_132 rfl (v := (1 : Int32)) (by decide) ?_
      refine Go.goto (pc' := 137) X226 hx hby at_133 (by decide) (by decide) ?_
      refine Go.istore (Ls' := #[.val (.int x0), .val (.int x1), .val (.int x2), .val (.int x3), .val (.int x4), .val (.int (1 : Int32)), .val (.int (0 : Int32)), .val (.ref b128), .val (.int st), .val (.ref b160), .val (.ref b185), .val (.int (1 : Int32)), .val (.int (1 : Int32)), .val (.int (1 : Int32)), .val (.int (1 : Int32))]) (pc' := 139) X226 hx hby at_137 rfl rfl ?_
      refine Go.iload (pc' := 141) X226 hx hby at_139 rfl rfl ?_
      refine Go.iload (pc' := 143) X226 hx hby at_141 rfl rfl ?_
      refine Go.icmpN (pc' := 146) X226 hx hby at_143 rfl (show ¬ ((1 : Int32) ≠ (1 : Int32)) from by decide) ?_
      refine Go.iload (pc' := 148) X226 hx hby at_146 rfl rfl ?_
      refine Go.iload (pc' := 150) X226 hx hby at_148 rfl rfl ?_
      refine Go.icmpN (pc' := 153) X226 hx hby at_150 rfl (show ¬ ((1 : Int32) ≠ (1 : Int32)) from by decide) ?_
      refine Go.iload (pc' := 155) X226 hx hby at_153 rfl rfl ?_
      refine Go.iload (pc' := 157) X226 hx hby at_155 rfl rfl ?_
      refine Go.icmpN (pc' := 160) X226 hx hby at_157 rfl (show ¬ ((1 : Int32) ≠ (1 : Int32)) from by decide) ?_
      refine Go.iconst (pc' := 161) X226 hx hby at_160 rfl (v := (1 : Int32)) (by decide) ?_
      refine Go.goto (pc' := 165) X226 hx hby at_161 (by decide) (by decide) ?_
      exact Go.retZ X226 hx hby hlk hret (by simp) at_165 (by decide) (by decide) ⟨rfl, (Fr.app (Fr.app N184 N1) N2)⟩
    ·
      refine Go.iconst (pc' := 20) X0 hx hby at_19 rfl (v := (1 : Int32)) (by decide) ?_
      refine Go.goto (pc' := 24) X0 hx hby at_20 (by decide) (by decide) ?_
      refine Go.istore (Ls' := #[.val (.int x0), .val (.int x1), .val (.int x2), .val (.int x3), .val (.int x4), .val (.int (1 : Int32)), .val (.int (1 : Int32)), .unset, .unset, .unset, .unset, .unset, .unset, .unset, .unset]) (pc' := 26) X0 hx hby at_24 rfl rfl ?_
      refine Go.iload (pc' := 28) X0 hx hby at_26 rfl rfl ?_
      refine Go.ifY (pc' := 37) X0 hx hby at_28 (by decide) (by decide) (show (1 : Int32) ≠ 0 from by decide) ?_
      refine Go.iload (pc' := 39) X0 hx hby at_37 rfl rfl ?_
      refine Go.ifN (pc' := 42) X0 hx hby at_39 rfl (show ¬ ((1 : Int32) = 0) from by decide) ?_
      refine Go.iconst (pc' := 43) X0 hx hby at_42 rfl (v := (0 : Int32)) (by decide) ?_
      refine Go.newarr (pc' := 45) (cap := 0) (z := 0) X0 hx hby hZ (hw _ (List.mem_of_getElem? (i := 100) rfl)) e0 at_43 rfl (by decide) (by decide) (by decide) (by decide) (by decide) (by decide) ?_
      intro b227 T228 h229 g230 X231 e232 E233 A234
      have g235 : h0.size ≤ b227 := by rw [g230]; exact (Nat.le_refl _)
      have f236 : Old Z h0.size h229 := O0.ext E233
      have z237 : h0.size ≤ h229.size := Nat.le_trans (Nat.le_refl _) E233.1
      have f238 : Ar Z h229 b227 .char 0 (fun _ => (.int 0)) := A234
      show Go p e below _ (T228.setTop (mkF m 45 #[.val (.int x0), .val (.int x1), .val (.int x2), .val (.int x3), .val (.int x4), .val (.int (1 : Int32)), .val (.int (1 : Int32)), .unset, .unset, .unset, .unset, .unset, .unset, .unset, .unset] [(.ref b227)]))
      refine Go.astore (Ls' := #[.val (.int x0), .val (.int x1), .val (.int x2), .val (.int x3), .val (.int x4), .val (.int (1 : Int32)), .val (.int (1 : Int32)), .val (.ref b227), .unset, .unset, .unset, .unset, .unset, .unset, .unset]) (pc' := 47) X231 hx hby at_45 rfl rfl rfl ?_
      refine Go.goto (pc' := 65) X231 hx hby at_47 (by decide) (by decide) ?_
      refine Go.iconst (pc' := 66) X231 hx hby at_65 rfl (v := (1 : Int32)) (by decide) ?_
      refine Go.iloadN (pc' := 67) X231 hx hby at_66 rfl rfl ?_
      refine Go.ldcI (pc' := 69) X231 hx hby at_67 rfl hown (mvT hZ (hw _ (List.mem_of_getElem? (i := 0) rfl))) ?_
      refine Go.iand (pc' := 70) X231 hx hby at_69 rfl ?_
      refine Go.iconst (pc' := 71) X231 hx hby at_70 rfl (v := (3 : Int32)) (by decide) ?_
      refine Go.irem (pc' := 72) X231 hx hby at_71 rfl (by decide) ?_
      refine Go.iadd (pc' := 73) X231 hx hby at_72 rfl ?_
      refine Go.nmI (fun (st : Int32) (hst : st = (1 : Int32) + ((x3 &&& (2147483647 : Int32)) % (3 : Int32))) => ?_)
      refine Go.istore (Ls' := #[.val (.int x0), .val (.int x1), .val (.int x2), .val (.int x3), .val (.int x4), .val (.int (1 : Int32)), .val (.int (1 : Int32)), .val (.ref b227), .val (.int st), .unset, .unset, .unset, .unset, .unset, .unset]) (pc' := 75) X231 hx hby at_73 rfl rfl ?_
      refine Go.iconst (pc' := 76) X231 hx hby at_75 rfl (v := (1 : Int32)) (by decide) ?_
      refine Go.newarr (pc' := 78) (cap := 1) (z := 1) X231 hx hby hZ (hw _ (List.mem_of_getElem? (i := 1) rfl)) e232 at_76 rfl (by decide) (by decide) (by decide) (by decide) (by decide) (by decide) ?_
      intro b239 T240 h241 g242 X243 e244 E245 A246
      have n247 : b227 ≠ b239 := Nat.ne_of_lt (by rw [g242]; exact f238.lt)
      have g248 : h0.size ≤ b239 := by rw [g242]; exact z237
      have f249 : Old Z h0.size h241 := f236.ext E245
      have f250 : Ar Z h241 b227 .char 0 (fun _ => (.int 0)) := f238.ext E245
      have z251 : h0.size ≤ h241.size := Nat.le_trans z237 E245.1
      have f252 : Ar Z h241 b239 .byte 1 (fun _ => (.int 0)) := A246
      show Go p e below _ (T240.setTop (mkF m 78 #[.val (.int x0), .val (.int x1), .val (.int x2), .val (.int x3), .val (.int x4), .val (.int (1 : Int32)), .val (.int (1 : Int32)), .val (.ref b227), .val (.int st), .unset, .unset, .unset, .unset, .unset, .unset] [(.ref b239)]))
      refine Go.dup (pc' := 79) X243 hx hby at_78 rfl rfl ?_
      refine Go.iconst (pc' := 80) X243 hx hby at_79 rfl (v := (0 : Int32)) (by decide) ?_
      refine Go.iload (pc' := 82) X243 hx hby at_80 rfl rfl ?_
      refine Go.i2b (pc' := 83) X243 hx hby at_82 rfl ?_
      refine Go.bastore (pc' := 84) (i := 0) X243 hx hby hZ e244 f252 at_83 rfl (by decide) (by decide) (by decide) ?_
      intro T253 h254 X255 e256 W257 A258
      have f259 : Old Z h0.size h254 := f249.wr W257 g248
      have f260 : Ar Z h254 b227 .char 0 (fun _ => (.int 0)) := f250.other W257 n247
      have z261 : h0.size ≤ h254.size := by rw [Wr.size W257]; exact z251
      have f262 : Ar Z h254 b239 .byte 1 (fun q => if q = 0 then (.int (nar .byte x4.toInt8.toInt32)) else (.int 0)) := A258
      have N263 : Fr h0.size _ := Fr.snoc X255 (Fr.nil _) g248
      show Go p e below _ (T253.setTop (mkF m 84 #[.val (.int x0), .val (.int x1), .val (.int x2), .val (.int x3), .val (.int x4), .val (.int (1 : Int32)), .val (.int (1 : Int32)), .val (.ref b227), .val (.int st), .unset, .unset, .unset, .unset, .unset, .unset] [(.ref b239)]))
      refine Go.astore (Ls' := #[.val (.int x0), .val (.int x1), .val (.int x2), .val (.int x3), .val (.int x4), .val (.int (1 : Int32)), .val (.int (1 : Int32)), .val (.ref b227), .val (.int st), .val (.ref b239), .unset, .unset, .unset, .unset, .unset]) (pc' := 86) X255 hx hby at_84 rfl rfl rfl ?_
      refine Go.new_ (pc' := 89) X255 hx hby hZ hown (hw _ (List.mem_of_getElem? (i := 2) rfl)) (hw _ (List.mem_of_getElem? (i := 3) rfl)) (hw _ (List.mem_of_getElem? (i := 4) rfl)) e256 at_86 rfl (by decide) (by decide) ?_
      intro b264 T265 h266 g267 X268 e269 E270 A271 D272
      have n273 : b227 ≠ b264 := Nat.ne_of_lt (by rw [g267]; exact f260.lt)
      have n274 : b239 ≠ b264 := Nat.ne_of_lt (by rw [g267]; exact f262.lt)
      have g275 : h0.size ≤ b264 := by rw [g267]; exact z261
      have f276 : Old Z h0.size h266 := f259.ext E270
      have f277 : Ar Z h266 b227 .char 0 (fun _ => (.int 0)) := f260.ext E270
      have f278 : Ar Z h266 b239 .byte 1 (fun q => if q = 0 then (.int (nar .byte x4.toInt8.toInt32)) else (.int 0)) := f262.ext E270
      have z279 : h0.size ≤ h266.size := Nat.le_trans z261 E270.1
      have f280 : Exa Z h266 b264 "com/example/minos/minos/io/zip/WinZipAesKeys" := A271
      have f281 : Fld Z h266 b264 "com/example/minos/minos/io/zip/WinZipAesKeys" "pending" "Ljava/util/List;" .null := D272 (Or.inr (hw _ (List.mem_of_getElem? (i := 36) rfl))) (ty := (.object "java/util/List")) (by decide)
      have f282 : Fld Z h266 b264 "com/example/minos/minos/io/zip/WinZipAesKeys" "expected" "Ljava/util/Deque;" .null := D272 (Or.inr (hw _ (List.mem_of_getElem? (i := 50) rfl))) (ty := (.object "java/util/Deque")) (by decide)
      have f283 : Fld Z h266 b264 "com/example/minos/minos/io/zip/WinZipAesKeys" "batches" "Ljava/util/Deque;" .null := D272 (Or.inr (hw _ (List.mem_of_getElem? (i := 52) rfl))) (ty := (.object "java/util/Deque")) (by decide)
      have f284 : Fld Z h266 b264 "com/example/minos/minos/io/zip/WinZipAesKeys" "inOrder" "Z" (.int 0) := D272 (Or.inl (hw _ (List.mem_of_getElem? (i := 54) rfl))) (ty := .boolean) (by decide)
      have f285 : Fld Z h266 b264 "com/example/minos/minos/io/zip/WinZipAesKeys" "password" "[C" .null := D272 (Or.inr (hw _ (List.mem_of_getElem? (i := 56) rfl))) (ty := (.array .char)) (by decide)
      show Go p e below _ (T265.setTop (mkF m 89 #[.val (.int x0), .val (.int x1), .val (.int x2), .val (.int x3), .val (.int x4), .val (.int (1 : Int32)), .val (.int (1 : Int32)), .val (.ref b227), .val (.int st), .val (.ref b239), .unset, .unset, .unset, .unset, .unset] [(.ref b264)]))
      refine Go.dup (pc' := 90) X268 hx hby at_89 rfl rfl ?_
      refine Go.aload (pc' := 92) X268 hx hby at_90 rfl rfl rfl ?_
      refine Go.callI (pc' := 95) (a := b264) (W := 1) (argsL := [(.ref b227)]) (rest := [(.ref b264)]) X268 hx hby rfl hZ hown (hw _ (List.mem_of_getElem? (i := 5) rfl)) (hw _ (List.mem_of_getElem? (i := 6) rfl)) (hw _ (List.mem_of_getElem? (i := 4) rfl)) (hw _ (List.mem_of_getElem? (i := 7) rfl)) (by decide) (rmKr l Z a0 hw b264 b227 h266 h0.size dz g275 z279 f276 S0 f280 f281 f282 f283 f284 f285) e269 (by decide) (by decide) (by rw [hml]; rfl) pd_10 rfl rfl rfl (Nat.le_of_eq rfl) at_92 rfl (by decide) (by decide) ?_
      rintro r286 T287 L288 X289 ⟨ls, de, ee, rfl, gl, gd, n1, n2, N1, K1, E1, P1, X1, I1, Q1, EL, ML, SL, DL, ED, TD, HD, LD, AD⟩
      have O1 := f276.keep K1 (allS g275 all0)
      have Z1 : h0.size ≤ T287.heap.size := Nat.le_trans z279 K1.1
      show Go p e below _ (T287.setTop (mkF m 95 #[.val (.int x0), .val (.int x1), .val (.int x2), .val (.int x3), .val (.int x4), .val (.int (1 : Int32)), .val (.int (1 : Int32)), .val (.ref b227), .val (.int st), .val (.ref b239), .unset, .unset, .unset, .unset, .unset] [(.ref b264)]))
      refine Go.astore (Ls' := #[.val (.int x0), .val (.int x1), .val (.int x2), .val (.int x3), .val (.int x4), .val (.int (1 : Int32)), .val (.int (1 : Int32)), .val (.ref b227), .val (.int st), .val (.ref b239), .val (.ref b264), .unset, .unset, .unset, .unset]) (pc' := 97) X289 hx hby at_95 rfl rfl rfl ?_
      refine Go.aload (pc' := 99) X289 hx hby at_97 rfl rfl rfl ?_
      refine Go.callV (C := "com/example/minos/minos/io/zip/WinZipAesKeys") (pc' := 102) (a := b264) (W := 0) (argsL := []) (rest := []) X289 hx hby hZ hown (hw _ (List.mem_of_getElem? (i := 57) rfl)) (hw _ (List.mem_of_getElem? (i := 58) rfl)) (notFace_of_selects (args := #[]) (mvT hZ (hw _ (List.mem_of_getElem? (i := 60) rfl)))) (hw _ (List.mem_of_getElem? (i := 60) rfl)) (hw _ (List.mem_of_getElem? (i := 59) rfl)) (hw _ (List.mem_of_getElem? (i := 4) rfl)) (hw _ (List.mem_of_getElem? (i := 61) rfl)) (by decide) (rmEr l Z a0 hw b264 _ b227 Q1 I1) rfl E1 (by decide) (by decide) (by rw [hml]; rfl) pd_2 rfl rfl rfl (Nat.le_of_eq rfl) at_99 rfl (by decide) (by decide) ?_
      rintro r290 T291 L292 X293 ⟨rfl, rfl, e1⟩
      rw [List.append_nil] at X293
      show Go p e below _ (T291.setTop (mkF m 102 #[.val (.int x0), .val (.int x1), .val (.int x2), .val (.int x3), .val (.int x4), .val (.int (1 : Int32)), .val (.int (1 : Int32)), .val (.ref b227), .val (.int st), .val (.ref b239), .val (.ref b264), .unset, .unset, .unset, .unset] [(.int (1 : Int32))]))
      refine Go.istore (Ls' := #[.val (.int x0), .val (.int x1), .val (.int x2), .val (.int x3), .val (.int x4), .val (.int (1 : Int32)), .val (.int (1 : Int32)), .val (.ref b227), .val (.int st), .val (.ref b239), .val (.ref b264), .val (.int (1 : Int32)), .unset, .unset, .unset]) (pc' := 104) X293 hx hby at_102 rfl rfl ?_
      refine Go.aload (pc' := 106) X293 hx hby at_104 rfl rfl rfl ?_
      refine Go.iload (pc' := 108) X293 hx hby at_106 rfl rfl ?_
      refine Go.aload (pc' := 110) X293 hx hby at_108 rfl rfl rfl ?_
      refine Go.callV (C := "com/example/minos/minos/io/zip/WinZipAesKeys") (pc' := 113) (a := b264) (W := 0) (argsL := [(.int st), (.ref b239)]) (rest := []) X293 hx hby hZ hown (hw _ (List.mem_of_getElem? (i := 62) rfl)) (hw _ (List.mem_of_getElem? (i := 63) rfl)) (notFace_of_selects (args := #[]) (mvT hZ (hw _ (List.mem_of_getElem? (i := 65) rfl)))) (hw _ (List.mem_of_getElem? (i := 65) rfl)) (hw _ (List.mem_of_getElem? (i := 64) rfl)) (hw _ (List.mem_of_getElem? (i := 4) rfl)) (hw _ (List.mem_of_getElem? (i := 66) rfl)) (by decide) (rmTr l Z a0 hw b264 st b239 _ h0.size dz fz b227 ls Z1 O1 S0 A0 E1 Q1 I1 P1 gl EL SL DL ML) e1 E1 (by decide) (by decide) (by rw [hml]; rfl) pd_7 rfl rfl rfl (Nat.le_of_eq rfl) at_110 rfl (by decide) (by decide) ?_
      rintro r294 T295 L296 X297 ⟨rfl, N2, K2, EL2, SL2⟩
      show Go p e below _ (T295.setTop (mkF m 113 #[.val (.int x0), .val (.int x1), .val (.int x2), .val (.int x3), .val (.int x4), .val (.int (1 : Int32)), .val (.int (1 : Int32)), .val (.ref b227), .val (.int st), .val (.ref b239), .val (.ref b264), .val (.int (1 : Int32)), .unset, .unset, .unset] []))
      replace E1 := E1.keep K2
      replace P1 := P1.keep K2 (ninS (Ne.symm n1) nin0)
      replace X1 := X1.keep K2 (ninS (Ne.symm n1) nin0)
      replace I1 := I1.keep K2 (ninS (Ne.symm n1) nin0)
      replace Q1 := Q1.keep K2 (ninS (Ne.symm n1) nin0)
      replace ED := ED.keep K2
      replace TD := TD.keep K2 (ninS (Ne.symm n2) nin0)
      replace HD := HD.keep K2 (ninS (Ne.symm n2) nin0)
      replace LD := LD.keep K2 (ninS (Ne.symm n2) nin0)
      replace AD := AD.keep K2 (ninS (Ne.symm (own_ne EL (hw _ (List.mem_of_getElem? (i := 12) rfl)) AD)) nin0)
      clear EL SL
      have EL := EL2
      have SL := SL2
      refine Go.aload (pc' := 115) X297 hx hby at_113 rfl rfl rfl ?_
      refine Go.callV (C := "com/example/minos/minos/io/zip/WinZipAesKeys") (pc' := 118) (a := b264) (W := 0) (argsL := []) (rest := []) X297 hx hby hZ hown (hw _ (List.mem_of_getElem? (i := 57) rfl)) (hw _ (List.mem_of_getElem? (i := 58) rfl)) (notFace_of_selects (args := #[]) (mvT hZ (hw _ (List.mem_of_getElem? (i := 60) rfl)))) (hw _ (List.mem_of_getElem? (i := 60) rfl)) (hw _ (List.mem_of_getElem? (i := 59) rfl)) (hw _ (List.mem_of_getElem? (i := 4) rfl)) (hw _ (List.mem_of_getElem? (i := 61) rfl)) (by decide) (rmEr l Z a0 hw b264 _ b227 Q1 I1) rfl E1 (by decide) (by decide) (by rw [hml]; rfl) pd_2 rfl rfl rfl (Nat.le_of_eq rfl) at_115 rfl (by decide) (by decide) ?_
      rintro r298 T299 L300 X301 ⟨rfl, rfl, e3⟩
      rw [List.append_nil] at X301
      show Go p e below _ (T299.setTop (mkF m 118 #[.val (.int x0), .val (.int x1), .val (.int x2), .val (.int x3), .val (.int x4), .val (.int (1 : Int32)), .val (.int (1 : Int32)), .val (.ref b227), .val (.int st), .val (.ref b239), .val (.ref b264), .val (.int (1 : Int32)), .unset, .unset, .unset] [(.int (1 : Int32))]))
      refine Go.istore (Ls' := #[.val (.int x0), .val (.int x1), .val (.int x2), .val (.int x3), .val (.int x4), .val (.int (1 : Int32)), .val (.int (1 : Int32)), .val (.ref b227), .val (.int st), .val (.ref b239), .val (.ref b264), .val (.int (1 : Int32)), .val (.int (1 : Int32)), .unset, .unset]) (pc' := 120) X301 hx hby at_118 rfl rfl ?_
      refine Go.aload (pc' := 122) X301 hx hby at_120 rfl rfl rfl ?_
      refine Go.callV (C := "com/example/minos/minos/io/zip/WinZipAesKeys") (pc' := 125) (a := b264) (W := 0) (argsL := []) (rest := []) X301 hx hby hZ hown (hw _ (List.mem_of_getElem? (i := 68) rfl)) (hw _ (List.mem_of_getElem? (i := 69) rfl)) (notFace_of_selects (args := #[]) (mvT hZ (hw _ (List.mem_of_getElem? (i := 71) rfl)))) (hw _ (List.mem_of_getElem? (i := 71) rfl)) (hw _ (List.mem_of_getElem? (i := 70) rfl)) (hw _ (List.mem_of_getElem? (i := 4) rfl)) (hw _ (List.mem_of_getElem? (i := 72) rfl)) (by decide) (rmEL l Z a0 hw b264 _ 1 ls de ee P1 X1 EL SL ED TD HD LD AD) e3 E1 (by decide) (by decide) (by rw [hml]; rfl) pd_0 rfl rfl rfl (Nat.le_of_eq rfl) at_122 rfl (by decide) (by decide) ?_
      rintro r302 T303 L304 X305 ⟨rfl, rfl, e4⟩
      rw [List.append_nil] at X305
      show Go p e below _ (T303.setTop (mkF m 125 #[.val (.int x0), .val (.int x1), .val (.int x2), .val (.int x3), .val (.int x4), .val (.int (1 : Int32)), .val (.int (1 : Int32)), .val (.ref b227), .val (.int st), .val (.ref b239), .val (.ref b264), .val (.int (1 : Int32)), .val (.int (1 : Int32)), .unset, .unset] [(.int (0 + 1))]))
      change Go p e below _ (T303.setTop (mkF m 125 #[.val (.int x0), .val (.int x1), .val (.int x2), .val (.int x3), .val (.int x4), .val (.int (1 : Int32)), .val (.int (1 : Int32)), .val (.ref b227), .val (.int st), .val (.ref b239), .val (.ref b264), .val (.int (1 : Int32)), .val (.int (1 : Int32)), .unset, .unset] [(.int (1 : Int32))]))
      refine Go.istore (Ls' := #[.val (.int x0), .val (.int x1), .val (.int x2), .val (.int x3), .val (.int x4), .val (.int (1 : Int32)), .val (.int (1 : Int32)), .val (.ref b227), .val (.int st), .val (.ref b239), .val (.ref b264), .val (.int (1 : Int32)), .val (.int (1 : Int32)), .val (.int (1 : Int32)), .unset]) (pc' := 127) X305 hx hby at_125 rfl rfl ?_
      refine Go.iload (pc' := 129) X305 hx hby at_127 rfl rfl ?_
      refine Go.ifN (pc' := 132) X305 hx hby at_129 rfl (show ¬ ((1 : Int32) = 0) from by decide) ?_
      refine Go.iconst (pc' := 133) X305 hx hby at_132 rfl (v := (1 : Int32)) (by decide) ?_
      refine Go.goto (pc' := 137) X305 hx hby at_133 (by decide) (by decide) ?_
      refine Go.istore (Ls' := #[.val (.int x0), .val (.int x1), .val (.int x2), .val (.int x3), .val (.int x4), .val (.int (1 : Int32)), .val (.int (1 : Int32)), .val (.ref b227), .val (.int st), .val (.ref b239), .val (.ref b264), .val (.int (1 : Int32)), .val (.int (1 : Int32)), .val (.int (1 : Int32)), .val (.int (1 : Int32))]) (pc' := 139) X305 hx hby at_137 rfl rfl ?_
      refine Go.iload (pc' := 141) X305 hx hby at_139 rfl rfl ?_
      refine Go.iload (pc' := 143) X305 hx hby at_141 rfl rfl ?_
      refine Go.icmpN (pc' := 146) X305 hx hby at_143 rfl (show ¬ ((1 : Int32) ≠ (1 : Int32)) from by decide) ?_
      refine Go.iload (pc' := 148) X305 hx hby at_146 rfl rfl ?_
      refine Go.iload (pc' := 150) X305 hx hby at_148 rfl rfl ?_
      refine Go.icmpN (pc' := 153) X305 hx hby at_150 rfl (show ¬ ((1 : Int32) ≠ (1 : Int32)) from by decide) ?_
      refine Go.iload (pc' := 155) X305 hx hby at_153 rfl rfl ?_
      refine Go.iload (pc' := 157) X305 hx hby at_155 rfl rfl ?_
      refine Go.icmpN (pc' := 160) X305 hx hby at_157 rfl (show ¬ ((1 : Int32) ≠ (1 : Int32)) from by decide) ?_
      refine Go.iconst (pc' := 161) X305 hx hby at_160 rfl (v := (1 : Int32)) (by decide) ?_
      refine Go.goto (pc' := 165) X305 hx hby at_161 (by decide) (by decide) ?_
      exact Go.retZ X305 hx hby hlk hret (by simp) at_165 (by decide) (by decide) ⟨rfl, (Fr.app (Fr.app N263 N1) N2)⟩
set_option maxRecDepth 65536 in
set_option maxHeartbeats 40000000 in
theorem comes_1 {Post : Tables → Env → Array Value → State → Outcome → State → Prop} (hpost : ∀ tb e args s v u, (limb_1_1.after args s (.returned v) u = true ∧ limb_1_2.after args s (.returned v) u = true ∧ True) → FrameEnd s (.returned v) u (Jvm.fieldLocs frame_1_writes args s ++ Jvm.arrayLocs frame_1_arrays args s ++ Jvm.staticLocs frame_1_statics s) 32 256 → Post tb e args s (.returned v) u) :
    ArmFor flags0 classFile x code maxLocals ret World_1 tables_1 room_1 Calls_1 rest_1 Pre_1 Post := by
  intro l hfl _ _ p e ha hc hk s m args below hf hA hF happ hP
  obtain ⟨hcalls, hrest, hpre⟩ := hP
  obtain ⟨-, -, -, hnamed, -, -, -, hat⟩ := (Spec.applies_iff hf).mp happ
  obtain ⟨hg, hn⟩ := and_e (Cond.before_iff.mp (show (Jvm.Cond.and given_1 narrow_1).before args s = true from hpre))
  obtain ⟨h1, g0⟩ := and_e hg
  obtain ⟨w0, w1, w2, w3, w4, rfl⟩ : ∃ w0 w1 w2 w3 w4 : Value, args = #[w0, w1, w2, w3, w4] := by
    have hs : args.size = 5 := by simpa [Cond.value, given_1] using h1
    obtain ⟨L⟩ := args
    match L, hs with
    | [w0, w1, w2, w3, w4], _ => exact ⟨w0, w1, w2, w3, w4, rfl⟩
  have hw := fun d (hd : d ∈ tables_1) => atoms_spec (ws := Jvm.Cond.code x code maxLocals ret :: tables_1) hat d (List.mem_cons_of_mem _ hd)
  have hfit : Fit s := fun {y c} hc i hi => by
    obtain ⟨ha, rfl⟩ := Array.getElem?_eq_some_iff.mp hc
    have q := List.all_eq_true.mp ((Array.all_eq_true_iff_forall_mem.mp hF) _ (Array.getElem_mem ha)) i (List.mem_range.mpr hi)
    simpa [Array.getElem?_eq_getElem hi] using q
  obtain ⟨k0, g1⟩ := and_e g0
  obtain ⟨i0, e0⟩ := is_v k0
  obtain rfl : w0 = (.int i0) := Option.some.inj e0
  obtain ⟨k1, g2⟩ := and_e g1
  obtain ⟨i1, e1⟩ := is_v k1
  obtain rfl : w1 = (.int i1) := Option.some.inj e1
  obtain ⟨k2, g3⟩ := and_e g2
  obtain ⟨i2, e2⟩ := is_v k2
  obtain rfl : w2 = (.int i2) := Option.some.inj e2
  obtain ⟨k3, g4⟩ := and_e g3
  obtain ⟨i3, e3⟩ := is_v k3
  obtain rfl : w3 = (.int i3) := Option.some.inj e3
  obtain ⟨i4, e4⟩ := is_v g4
  obtain rfl : w4 = (.int i4) := Option.some.inj e4
  obtain ⟨hsets, -⟩ := atoms_of jdkStatics_1 (by rw [← rest_1_c_eq]; exact hrest)
  have hset := fun (k : Nat) (d : Jvm.Cond) (hk : jdkStatics_1[k]? = some d) => hsets d (List.mem_of_getElem? hk)
  obtain ⟨dz, ev⟩ := exa_v (Cond.before_iff.mp (hset 7 _ rfl))
  have S0 := Sta.start ev (Or.inr ⟨(hw _ (List.mem_of_getElem? (i := 13) rfl)), hset 2 _ rfl⟩)
  obtain ⟨cz, Az⟩ := Arr.start ev (Cond.before_iff.mp (hset 6 _ rfl))
  have A0 := own_zero ev Az (Cond.before_iff.mp (hset 8 _ rfl))
  obtain ⟨n, o, h1, h2, h3, _, L, rfl, ⟨rfl, N⟩, hq⟩ := rm0 l s _ hw i0 i1 i2 i3 i4 s.heap dz _ (Old.start s) S0 A0 p e ha hc hk s m _ below hf ((Spec.applies_iff_loose hf).mp happ).1 ⟨rfl, State.Warmed39.refl s, rfl⟩ trivial
  refine ⟨n, _, h1, h2, h3, hpost _ _ _ _ _ _ ⟨Cond.after_iff.mpr rfl, Cond.after_iff.mpr (eq_i res_at (Term.int_eval (1)) rfl), trivial⟩ ⟨hq.1, hq.2.1, (hq.2.2.sift fun y hy => Or.inr (N y hy)).mono (by decide) (by decide)⟩⟩
theorem main_1_1 : Claimed_1_1 := comes_1 fun _ _ _ _ _ _ h hF => ⟨h.1, hF⟩
theorem main_1_2 : Claimed_1_2 := comes_1 fun _ _ _ _ _ _ h hF => ⟨h.2.1, hF⟩
end Jvm.Pilot.@@N@@
namespace Jvm.Pilot.@@N@@
open Jvm Jvm.ClassFile Sem Op Lib Jvm.Free Jvm.Stand Jvm.Pilot.@@N@@.Jvm.D
/-! MADE BY PROGRAM (witnessworld.py) out of the Statement's table words and the real class files: 25 classes; the members and pool entries that the words name. The judged class is class 1, her method 1. -/
namespace start1
open Jvm.ClassFile
def u (s : String) : CpInfo := .utf8 (stringToUtf16 s)
/-- a pool by its gaps: so many unusable entries, then the entry; so many at the end -/
def gap : Nat → List CpInfo → List CpInfo
  | 0, r => r
  | n + 1, r => .unusable :: gap n r
def poolList (es : List (Nat × CpInfo)) (last : Nat) : List CpInfo := es.foldr (fun e r => gap e.1 (e.2 :: r)) (gap last [])
def pool (es : List (Nat × CpInfo)) (last : Nat) : Array CpInfo := ⟨poolList es last⟩
def fileOf (pool : Array CpInfo) (this : Nat) (attrs : Array Attribute := #[]) (ms : Array MethodInfo := #[]) (fl : Nat := 33) (sup : Nat := 0) (ifs : Array Nat := #[]) (fds : Array FieldInfo := #[]) : ClassFile where
  minorVersion := 0
  majorVersion := 65
  constantPool := pool
  accessFlags := fl
  thisClass := this
  superClass := sup
  interfaces := ifs
  fields := fds
  methods := ms
  attributes := attrs
def plain (name : String) (sup : Option ClassId) : Class where
  name := name
  kind := .ordinary
  loader := none
  accessFlags := 33
  super := sup
  interfaces := #[]
  cf := none
  fields := #[]
  methods := #[]
  instanceTypes := #[]
  staticTypes := #[]
  resolved := #[]
  callSites := []
  init := .initialized
  statics := none
  mirror := none

def pool0 : Array CpInfo := pool [(5, u "<init>"), (0, u "()V"), (1, .class_ 10), (1, u "java/lang/Object")] 113

def k0c0 : Code := { maxStack := 0, maxLocals := 1, code := object_method_1_code, exceptionTable := #[], attributes := #[] }
def k0m0 : Method := { name := "<init>", desc := "()V", sig := { parameters := [], returnType := none }, accessFlags := 1, code := some k0c0 }
/-- java/lang/Object -/
def k0 : Class := { plain "java/lang/Object" none with
  accessFlags := 33
  interfaces := #[]
  cf := some (fileOf pool0 8 #[] #[{ accessFlags := 1, nameIndex := 5, descriptorIndex := 6, attributes := #[] }] 33 0 #[] #[])
  fields := #[]
  methods := #[k0m0]
  instanceTypes := #[]
  staticTypes := #[]
  resolved := Array.replicate 124 none
  statics := none }

def pool1 : Array CpInfo := pool [(2, .class_ 4), (1, u "java/lang/Object"), (0, u "<init>"), (0, u "()V"), (0, .integer 2147483647), (0, .class_ 9), (0, u "com/example/minos/minos/io/zip/WinZipAesKeys"), (0, .methodref 8 11), (0, .nameAndType 5 12), (0, u "([C)V"), (0, .methodref 8 14), (0, .nameAndType 15 16), (0, u "expectsAhead"), (0, u "()Z"), (0, .methodref 8 18), (0, .nameAndType 19 20), (0, u "expect"), (0, u "(I[B)V"), (0, .methodref 8 22), (0, .nameAndType 23 24), (0, u "expectedLeft"), (0, u "()I"), (0, .class_ 26), (0, u "com/example/minos/minos/io/zip/WinZipAesKeysExpectsAheadPinLaw"), (2, u "law"), (0, u "(IIIII)Z")] 7

def k1m0 : Method := { name := "<init>", desc := "()V", sig := { parameters := [], returnType := none }, accessFlags := 2, code := none }
def k1c1 : Code := { maxStack := 4, maxLocals := 15, code := code, exceptionTable := #[], attributes := #[] }
def k1m1 : Method := { name := "law", desc := "(IIIII)Z", sig := { parameters := [.int, .int, .int, .int, .int], returnType := some .boolean }, accessFlags := 9, code := some k1c1 }
/-- com/example/minos/minos/io/zip/WinZipAesKeysExpectsAheadPinLaw -/
def k1 : Class := { plain "com/example/minos/minos/io/zip/WinZipAesKeysExpectsAheadPinLaw" (some 0) with
  accessFlags := 49
  interfaces := #[]
  cf := some (fileOf pool1 25 #[] #[{ accessFlags := 2, nameIndex := 5, descriptorIndex := 6, attributes := #[] }, { accessFlags := 9, nameIndex := 29, descriptorIndex := 30, attributes := #[] }] 49 2 #[] #[])
  fields := #[]
  methods := #[k1m0, k1m1]
  instanceTypes := #[]
  staticTypes := #[]
  resolved := Array.replicate 38 none
  statics := none }

def pool2 : Array CpInfo := pool [(1, .methodref 2 3), (0, .class_ 4), (0, .nameAndType 5 6), (0, u "java/lang/Object"), (0, u "<init>"), (0, u "()V"), (0, .class_ 8), (0, u "java/util/ArrayList"), (0, .methodref 7 3), (0, .fieldref 11 12), (0, .class_ 13), (0, .nameAndType 14 15), (0, u "com/example/minos/minos/io/zip/WinZipAesKeys"), (0, u "pending"), (0, u "Ljava/util/List;"), (0, .class_ 17), (0, u "java/util/ArrayDeque"), (0, .methodref 16 3), (0, .fieldref 11 20), (0, .nameAndType 21 22), (0, u "expected"), (0, u "Ljava/util/Deque;"), (0, .fieldref 11 24), (0, .nameAndType 25 22), (0, u "batches"), (0, .fieldref 11 27), (0, .nameAndType 28 29), (0, u "inOrder"), (0, u "Z"), (0, .fieldref 11 31), (0, .nameAndType 32 33), (0, u "password"), (0, u "[C"), (4, .methodref 11 39), (0, .nameAndType 40 41), (0, u "expectsAhead"), (0, u "()Z"), (0, .class_ 43), (0, u "com/example/minos/minos/io/zip/WinZipAesKeys$Expected"), (0, .methodref 42 45), (0, .nameAndType 5 46), (0, u "(I[B)V"), (0, .interfaceMethodref 48 49), (0, .class_ 50), (0, .nameAndType 51 52), (0, u "java/util/List"), (0, u "add"), (0, u "(Ljava/lang/Object;)Z"), (0, .interfaceMethodref 54 55), (0, .class_ 56), (0, .nameAndType 57 58), (0, u "java/util/Deque"), (0, u "size"), (0, u "()I"), (0, .interfaceMethodref 48 55), (23, u "I"), (9, .class_ 94), (0, u "com/example/minos/minos/io/zip/WinZipAesKeys$Batch"), (21, u "pbkdf2"), (79, u "Lcom/example/minos/minos/io/zip/Pbkdf2;"), (33, u "VERIFIER_LENGTH"), (2, u "ITERATIONS"), (5, u "([C)V"), (3, u "expect"), (0, u "expectedLeft")] 8

def k2c0 : Code := { maxStack := 3, maxLocals := 2, code := prog_18_method_1_code, exceptionTable := #[], attributes := #[] }
def k2m0 : Method := { name := "<init>", desc := "([C)V", sig := { parameters := [(.array .char)], returnType := none }, accessFlags := 0, code := some k2c0 }
def k2c1 : Code := { maxStack := 1, maxLocals := 1, code := prog_18_method_4_code, exceptionTable := #[], attributes := #[] }
def k2m1 : Method := { name := "expectsAhead", desc := "()Z", sig := { parameters := [], returnType := some .boolean }, accessFlags := 0, code := some k2c1 }
def k2c2 : Code := { maxStack := 5, maxLocals := 3, code := prog_18_method_5_code, exceptionTable := #[], attributes := #[] }
def k2m2 : Method := { name := "expect", desc := "(I[B)V", sig := { parameters := [.int, (.array .byte)], returnType := none }, accessFlags := 0, code := some k2c2 }
def k2c3 : Code := { maxStack := 2, maxLocals := 1, code := prog_18_method_6_code, exceptionTable := #[], attributes := #[] }
def k2m3 : Method := { name := "expectedLeft", desc := "()I", sig := { parameters := [], returnType := some .int }, accessFlags := 0, code := some k2c3 }
/-- com/example/minos/minos/io/zip/WinZipAesKeys -/
def k2 : Class := { plain "com/example/minos/minos/io/zip/WinZipAesKeys" (some 0) with
  accessFlags := 32
  interfaces := #[]
  cf := some (fileOf pool2 11 #[.nestMembers #[93, 42]] #[{ accessFlags := 0, nameIndex := 5, descriptorIndex := 239, attributes := #[] }, { accessFlags := 0, nameIndex := 40, descriptorIndex := 41, attributes := #[] }, { accessFlags := 0, nameIndex := 243, descriptorIndex := 46, attributes := #[] }, { accessFlags := 0, nameIndex := 244, descriptorIndex := 58, attributes := #[] }] 32 2 #[] #[{ accessFlags := 24, nameIndex := 230, descriptorIndex := 83, attributes := #[] }, { accessFlags := 26, nameIndex := 233, descriptorIndex := 83, attributes := #[] }, { accessFlags := 18, nameIndex := 32, descriptorIndex := 33, attributes := #[] }, { accessFlags := 18, nameIndex := 14, descriptorIndex := 15, attributes := #[] }, { accessFlags := 18, nameIndex := 21, descriptorIndex := 22, attributes := #[] }, { accessFlags := 18, nameIndex := 25, descriptorIndex := 22, attributes := #[] }, { accessFlags := 2, nameIndex := 116, descriptorIndex := 196, attributes := #[] }, { accessFlags := 2, nameIndex := 28, descriptorIndex := 29, attributes := #[] }])
  fields := #[{ name := "VERIFIER_LENGTH", type := .int, accessFlags := 24, slot := 0, constantValue := 0 }, { name := "ITERATIONS", type := .int, accessFlags := 26, slot := 1, constantValue := 0 }, { name := "password", type := (.array .char), accessFlags := 18, slot := 0, constantValue := 0 }, { name := "pending", type := (.object "java/util/List"), accessFlags := 18, slot := 1, constantValue := 0 }, { name := "expected", type := (.object "java/util/Deque"), accessFlags := 18, slot := 2, constantValue := 0 }, { name := "batches", type := (.object "java/util/Deque"), accessFlags := 18, slot := 3, constantValue := 0 }, { name := "pbkdf2", type := (.object "com/example/minos/minos/io/zip/Pbkdf2"), accessFlags := 2, slot := 4, constantValue := 0 }, { name := "inOrder", type := .boolean, accessFlags := 2, slot := 5, constantValue := 0 }]
  methods := #[k2m0, k2m1, k2m2, k2m3]
  instanceTypes := #[(.array .char), (.object "java/util/List"), (.object "java/util/Deque"), (.object "java/util/Deque"), (.object "com/example/minos/minos/io/zip/Pbkdf2"), .boolean]
  staticTypes := #[.int, .int]
  resolved := Array.replicate 253 none
  statics := none }

def pool3 : Array CpInfo := pool [(8, .class_ 10), (1, u "java/lang/Iterable"), (24, .class_ 36), (0, u "java/lang/Object")] 25

/-- java/lang/Iterable -/
def k3 : Class := { plain "java/lang/Iterable" (some 0) with
  accessFlags := 1537
  interfaces := #[]
  cf := some (fileOf pool3 8 #[] #[] 1537 35 #[] #[])
  fields := #[]
  methods := #[]
  instanceTypes := #[]
  staticTypes := #[]
  resolved := Array.replicate 62 none
  statics := none }

def pool4 : Array CpInfo := pool [(10, .class_ 12), (1, u "java/util/Collection"), (47, .class_ 61), (0, u "java/lang/Object"), (0, .class_ 63), (0, u "java/lang/Iterable")] 51

/-- java/util/Collection -/
def k4 : Class := { plain "java/util/Collection" (some 0) with
  accessFlags := 1537
  interfaces := #[3]
  cf := some (fileOf pool4 10 #[] #[] 1537 60 #[62] #[])
  fields := #[]
  methods := #[]
  instanceTypes := #[]
  staticTypes := #[]
  resolved := Array.replicate 115 none
  statics := none }

def pool5 : Array CpInfo := pool [(1, .methodref 2 3), (0, .class_ 4), (0, .nameAndType 5 6), (0, u "java/lang/Object"), (0, u "<init>"), (0, u "()V"), (1, .class_ 10), (1, u "java/util/AbstractCollection"), (66, .class_ 78), (0, u "java/util/Collection")] 81

def k5c0 : Code := { maxStack := 1, maxLocals := 1, code := jdk_22_method_1_code, exceptionTable := #[], attributes := #[] }
def k5m0 : Method := { name := "<init>", desc := "()V", sig := { parameters := [], returnType := none }, accessFlags := 4, code := some k5c0 }
/-- java/util/AbstractCollection -/
def k5 : Class := { plain "java/util/AbstractCollection" (some 0) with
  accessFlags := 1057
  interfaces := #[4]
  cf := some (fileOf pool5 8 #[] #[{ accessFlags := 4, nameIndex := 5, descriptorIndex := 6, attributes := #[] }] 1057 2 #[77] #[])
  fields := #[]
  methods := #[k5m0]
  instanceTypes := #[]
  staticTypes := #[]
  resolved := Array.replicate 160 none
  statics := none }

def pool6 : Array CpInfo := pool [(8, .class_ 10), (1, u "java/util/SequencedCollection"), (15, .class_ 27), (0, u "java/lang/Object"), (0, .class_ 29), (0, u "java/util/Collection")] 27

/-- java/util/SequencedCollection -/
def k6 : Class := { plain "java/util/SequencedCollection" (some 0) with
  accessFlags := 1537
  interfaces := #[4]
  cf := some (fileOf pool6 8 #[] #[] 1537 26 #[28] #[])
  fields := #[]
  methods := #[]
  instanceTypes := #[]
  staticTypes := #[]
  resolved := Array.replicate 57 none
  statics := none }

def pool7 : Array CpInfo := pool [(8, .class_ 10), (1, u "java/util/List"), (49, u "add"), (3, u "(Ljava/lang/Object;)Z"), (14, u "size"), (0, u "()I"), (22, .class_ 104), (0, u "java/lang/Object"), (15, .class_ 121), (0, u "java/util/SequencedCollection")] 129

def k7m0 : Method := { name := "size", desc := "()I", sig := { parameters := [], returnType := some .int }, accessFlags := 1025, code := none }
def k7m1 : Method := { name := "add", desc := "(Ljava/lang/Object;)Z", sig := { parameters := [(.object "java/lang/Object")], returnType := some .boolean }, accessFlags := 1025, code := none }
/-- java/util/List -/
def k7 : Class := { plain "java/util/List" (some 0) with
  accessFlags := 1537
  interfaces := #[6]
  cf := some (fileOf pool7 8 #[] #[{ accessFlags := 1025, nameIndex := 79, descriptorIndex := 80, attributes := #[] }, { accessFlags := 1025, nameIndex := 60, descriptorIndex := 64, attributes := #[] }] 1537 103 #[120] #[])
  fields := #[]
  methods := #[k7m0, k7m1]
  instanceTypes := #[]
  staticTypes := #[]
  resolved := Array.replicate 251 none
  statics := none }

def pool8 : Array CpInfo := pool [(1, .methodref 2 3), (0, .class_ 4), (0, .nameAndType 5 6), (0, u "java/util/AbstractCollection"), (0, u "<init>"), (0, u "()V"), (0, .fieldref 8 9), (0, .class_ 10), (0, .nameAndType 11 12), (0, u "java/util/AbstractList"), (0, u "modCount"), (0, u "I"), (64, .class_ 78), (0, u "java/util/AbstractList$Itr"), (3, .class_ 83), (0, u "java/util/AbstractList$ListItr"), (9, .class_ 94), (0, u "java/util/AbstractList$RandomAccessSubList"), (3, .class_ 99), (0, u "java/util/AbstractList$SubList"), (33, .class_ 134), (0, u "java/util/List"), (73, .class_ 209), (0, u "java/util/AbstractList$SubList$1"), (0, .class_ 211), (0, u "java/util/AbstractList$RandomAccessSpliterator")] 6

def k8c0 : Code := { maxStack := 2, maxLocals := 1, code := jdk_39_method_1_code, exceptionTable := #[], attributes := #[] }
def k8m0 : Method := { name := "<init>", desc := "()V", sig := { parameters := [], returnType := none }, accessFlags := 4, code := some k8c0 }
/-- java/util/AbstractList -/
def k8 : Class := { plain "java/util/AbstractList" (some 5) with
  accessFlags := 1057
  interfaces := #[7]
  cf := some (fileOf pool8 8 #[.nestMembers #[93, 98, 208, 210, 82, 77]] #[{ accessFlags := 4, nameIndex := 5, descriptorIndex := 6, attributes := #[] }] 1057 2 #[133] #[{ accessFlags := 132, nameIndex := 11, descriptorIndex := 12, attributes := #[] }])
  fields := #[{ name := "modCount", type := .int, accessFlags := 132, slot := 0, constantValue := 0 }]
  methods := #[k8m0]
  instanceTypes := #[.int]
  staticTypes := #[]
  resolved := Array.replicate 218 none
  statics := none }

def pool9 : Array CpInfo := pool [(1, .class_ 2), (0, u "java/util/RandomAccess"), (0, .class_ 4), (0, u "java/lang/Object")] 2

/-- java/util/RandomAccess -/
def k9 : Class := { plain "java/util/RandomAccess" (some 0) with
  accessFlags := 1537
  interfaces := #[]
  cf := some (fileOf pool9 1 #[] #[] 1537 3 #[] #[])
  fields := #[]
  methods := #[]
  instanceTypes := #[]
  staticTypes := #[]
  resolved := Array.replicate 7 none
  statics := none }

def pool10 : Array CpInfo := pool [(1, .class_ 2), (0, u "java/lang/Cloneable"), (0, .class_ 4), (0, u "java/lang/Object")] 2

/-- java/lang/Cloneable -/
def k10 : Class := { plain "java/lang/Cloneable" (some 0) with
  accessFlags := 1537
  interfaces := #[]
  cf := some (fileOf pool10 1 #[] #[] 1537 3 #[] #[])
  fields := #[]
  methods := #[]
  instanceTypes := #[]
  staticTypes := #[]
  resolved := Array.replicate 7 none
  statics := none }

def pool11 : Array CpInfo := pool [(1, .class_ 2), (0, u "java/io/Serializable"), (0, .class_ 4), (0, u "java/lang/Object")] 2

/-- java/io/Serializable -/
def k11 : Class := { plain "java/io/Serializable" (some 0) with
  accessFlags := 1537
  interfaces := #[]
  cf := some (fileOf pool11 1 #[] #[] 1537 3 #[] #[])
  fields := #[]
  methods := #[]
  instanceTypes := #[]
  staticTypes := #[]
  resolved := Array.replicate 7 none
  statics := none }

def pool12 : Array CpInfo := pool [(1, .methodref 2 3), (0, .class_ 4), (0, .nameAndType 5 6), (0, u "java/util/AbstractList"), (0, u "<init>"), (0, u "()V"), (0, .class_ 8), (0, u "java/lang/Object"), (0, .fieldref 10 11), (0, .class_ 12), (0, .nameAndType 13 14), (0, u "java/util/ArrayList"), (0, u "elementData"), (0, u "[Ljava/lang/Object;"), (2, u "EMPTY_ELEMENTDATA"), (21, .fieldref 10 40), (0, .nameAndType 41 14), (0, u "DEFAULTCAPACITY_EMPTY_ELEMENTDATA"), (5, u "()[Ljava/lang/Object;"), (0, .fieldref 10 49), (0, .nameAndType 50 51), (0, u "size"), (0, u "I"), (11, .fieldref 10 64), (0, .nameAndType 65 51), (0, u "modCount"), (3, .methodref 10 70), (0, .nameAndType 71 72), (0, u "grow"), (0, u "(I)[Ljava/lang/Object;"), (6, .methodref 80 81), (0, .class_ 82), (0, .nameAndType 83 84), (0, u "java/lang/Math"), (0, u "max"), (0, u "(II)I"), (11, u "(Ljava/lang/Object;)Z"), (32, .methodref 10 130), (0, .nameAndType 71 47), (0, .methodref 10 132), (0, .nameAndType 133 134), (0, u "add"), (0, u "(Ljava/lang/Object;[Ljava/lang/Object;I)V"), (13, .class_ 149), (0, u "java/util/List"), (36, u "()I"), (75, .class_ 263), (0, u "java/util/ArrayList$ListItr"), (3, .class_ 268), (0, u "java/util/ArrayList$Itr"), (7, .class_ 277), (0, u "java/util/ArrayList$SubList"), (12, .class_ 291), (0, u "java/util/ArrayList$ArrayListSpliterator"), (37, .class_ 330), (0, u "java/util/RandomAccess"), (0, .class_ 332), (0, u "java/lang/Cloneable"), (0, .class_ 334), (0, u "java/io/Serializable"), (0, u "serialVersionUID"), (0, u "J"), (3, u "DEFAULT_CAPACITY"), (159, .class_ 501), (0, u "java/util/ArrayList$SubList$2"), (0, .class_ 503), (0, u "java/util/ArrayList$SubList$1")] 5

def k12c0 : Code := { maxStack := 2, maxLocals := 1, code := jdk_38_method_2_code, exceptionTable := #[], attributes := #[] }
def k12m0 : Method := { name := "<init>", desc := "()V", sig := { parameters := [], returnType := none }, accessFlags := 1, code := some k12c0 }
def k12c1 : Code := { maxStack := 4, maxLocals := 4, code := jdk_38_method_6_code, exceptionTable := #[], attributes := #[] }
def k12m1 : Method := { name := "grow", desc := "(I)[Ljava/lang/Object;", sig := { parameters := [.int], returnType := some (.array (.object "java/lang/Object")) }, accessFlags := 2, code := some k12c1 }
def k12c2 : Code := { maxStack := 3, maxLocals := 1, code := jdk_38_method_7_code, exceptionTable := #[], attributes := #[] }
def k12m2 : Method := { name := "grow", desc := "()[Ljava/lang/Object;", sig := { parameters := [], returnType := some (.array (.object "java/lang/Object")) }, accessFlags := 2, code := some k12c2 }
def k12c3 : Code := { maxStack := 1, maxLocals := 1, code := jdk_38_method_8_code, exceptionTable := #[], attributes := #[] }
def k12m3 : Method := { name := "size", desc := "()I", sig := { parameters := [], returnType := some .int }, accessFlags := 1, code := some k12c3 }
def k12c4 : Code := { maxStack := 3, maxLocals := 4, code := jdk_38_method_24_code, exceptionTable := #[], attributes := #[] }
def k12m4 : Method := { name := "add", desc := "(Ljava/lang/Object;[Ljava/lang/Object;I)V", sig := { parameters := [(.object "java/lang/Object"), (.array (.object "java/lang/Object")), .int], returnType := none }, accessFlags := 2, code := some k12c4 }
def k12c5 : Code := { maxStack := 4, maxLocals := 2, code := jdk_38_method_25_code, exceptionTable := #[], attributes := #[] }
def k12m5 : Method := { name := "add", desc := "(Ljava/lang/Object;)Z", sig := { parameters := [(.object "java/lang/Object")], returnType := some .boolean }, accessFlags := 1, code := some k12c5 }
/-- java/util/ArrayList -/
def k12 : Class := { plain "java/util/ArrayList" (some 8) with
  accessFlags := 33
  interfaces := #[7, 9, 10, 11]
  cf := some (fileOf pool12 10 #[.nestMembers #[290, 276, 500, 502, 262, 267]] #[{ accessFlags := 1, nameIndex := 5, descriptorIndex := 6, attributes := #[] }, { accessFlags := 2, nameIndex := 71, descriptorIndex := 72, attributes := #[] }, { accessFlags := 2, nameIndex := 71, descriptorIndex := 47, attributes := #[] }, { accessFlags := 1, nameIndex := 50, descriptorIndex := 186, attributes := #[] }, { accessFlags := 2, nameIndex := 133, descriptorIndex := 134, attributes := #[] }, { accessFlags := 1, nameIndex := 133, descriptorIndex := 96, attributes := #[] }] 33 2 #[148, 329, 331, 333] #[{ accessFlags := 26, nameIndex := 335, descriptorIndex := 336, attributes := #[] }, { accessFlags := 26, nameIndex := 340, descriptorIndex := 51, attributes := #[] }, { accessFlags := 26, nameIndex := 17, descriptorIndex := 14, attributes := #[] }, { accessFlags := 26, nameIndex := 41, descriptorIndex := 14, attributes := #[] }, { accessFlags := 128, nameIndex := 13, descriptorIndex := 14, attributes := #[] }, { accessFlags := 2, nameIndex := 50, descriptorIndex := 51, attributes := #[] }])
  fields := #[{ name := "serialVersionUID", type := .long, accessFlags := 26, slot := 0, constantValue := 0 }, { name := "DEFAULT_CAPACITY", type := .int, accessFlags := 26, slot := 1, constantValue := 0 }, { name := "EMPTY_ELEMENTDATA", type := (.array (.object "java/lang/Object")), accessFlags := 26, slot := 2, constantValue := 0 }, { name := "DEFAULTCAPACITY_EMPTY_ELEMENTDATA", type := (.array (.object "java/lang/Object")), accessFlags := 26, slot := 3, constantValue := 0 }, { name := "elementData", type := (.array (.object "java/lang/Object")), accessFlags := 128, slot := 1, constantValue := 0 }, { name := "size", type := .int, accessFlags := 2, slot := 2, constantValue := 0 }]
  methods := #[k12m0, k12m1, k12m2, k12m3, k12m4, k12m5]
  instanceTypes := #[.int, (.array (.object "java/lang/Object")), .int]
  staticTypes := #[.long, .int, (.array (.object "java/lang/Object")), (.array (.object "java/lang/Object"))]
  resolved := Array.replicate 509 none
  statics := some 0 }

def pool13 : Array CpInfo := pool [(1, .class_ 2), (0, u "java/util/Queue"), (0, .class_ 4), (0, u "java/lang/Object"), (0, .class_ 6), (0, u "java/util/Collection")] 14

/-- java/util/Queue -/
def k13 : Class := { plain "java/util/Queue" (some 0) with
  accessFlags := 1537
  interfaces := #[4]
  cf := some (fileOf pool13 1 #[] #[] 1537 3 #[5] #[])
  fields := #[]
  methods := #[]
  instanceTypes := #[]
  staticTypes := #[]
  resolved := Array.replicate 21 none
  statics := none }

def pool14 : Array CpInfo := pool [(8, .class_ 10), (1, u "java/util/Deque"), (2, .class_ 14), (0, u "java/lang/Object"), (0, .class_ 16), (0, u "java/util/Queue"), (0, .class_ 18), (0, u "java/util/SequencedCollection"), (33, u "size"), (0, u "()I")] 16

def k14m0 : Method := { name := "size", desc := "()I", sig := { parameters := [], returnType := some .int }, accessFlags := 1025, code := none }
/-- java/util/Deque -/
def k14 : Class := { plain "java/util/Deque" (some 0) with
  accessFlags := 1537
  interfaces := #[13, 6]
  cf := some (fileOf pool14 8 #[] #[{ accessFlags := 1025, nameIndex := 52, descriptorIndex := 53, attributes := #[] }] 1537 13 #[15, 17] #[])
  fields := #[]
  methods := #[k14m0]
  instanceTypes := #[]
  staticTypes := #[]
  resolved := Array.replicate 70 none
  statics := none }

def pool15 : Array CpInfo := pool [(3, .fieldref 4 5), (0, .class_ 6), (0, .nameAndType 7 8), (0, u "java/util/ArrayDeque"), (0, u "elements"), (0, u "[Ljava/lang/Object;"), (11, .fieldref 4 21), (0, .nameAndType 22 23), (0, u "tail"), (0, u "I"), (0, .fieldref 4 25), (0, .nameAndType 26 23), (0, u "head"), (12, u "<init>"), (2, .methodref 43 44), (0, .class_ 45), (0, .nameAndType 39 46), (0, u "java/util/AbstractCollection"), (0, u "()V"), (0, .class_ 48), (0, u "java/lang/Object"), (4, u "size"), (0, u "()I"), (72, .methodref 4 128), (0, .nameAndType 129 130), (0, u "sub"), (0, u "(III)I"), (0, .class_ 132), (0, u "java/util/ArrayDeque$DeqIterator"), (3, .class_ 137), (0, u "java/util/ArrayDeque$DescendingIterator"), (1, .class_ 140), (0, u "java/util/ArrayDeque$DeqSpliterator"), (137, .class_ 279), (0, u "java/util/Deque"), (0, .class_ 281), (0, u "java/lang/Cloneable"), (0, .class_ 283), (0, u "java/io/Serializable"), (0, u "MAX_ARRAY_SIZE"), (1, u "serialVersionUID"), (0, u "J")] 150

def k15c0 : Code := { maxStack := 2, maxLocals := 1, code := jdk_21_method_3_code, exceptionTable := #[], attributes := #[] }
def k15m0 : Method := { name := "<init>", desc := "()V", sig := { parameters := [], returnType := none }, accessFlags := 1, code := some k15c0 }
def k15c1 : Code := { maxStack := 2, maxLocals := 3, code := jdk_21_method_9_code, exceptionTable := #[], attributes := #[] }
def k15m1 : Method := { name := "sub", desc := "(III)I", sig := { parameters := [.int, .int, .int], returnType := some .int }, accessFlags := 24, code := some k15c1 }
def k15c2 : Code := { maxStack := 3, maxLocals := 1, code := jdk_21_method_37_code, exceptionTable := #[], attributes := #[] }
def k15m2 : Method := { name := "size", desc := "()I", sig := { parameters := [], returnType := some .int }, accessFlags := 1, code := some k15c2 }
/-- java/util/ArrayDeque -/
def k15 : Class := { plain "java/util/ArrayDeque" (some 5) with
  accessFlags := 33
  interfaces := #[14, 10, 11]
  cf := some (fileOf pool15 4 #[.nestMembers #[139, 136, 131]] #[{ accessFlags := 1, nameIndex := 39, descriptorIndex := 46, attributes := #[] }, { accessFlags := 24, nameIndex := 129, descriptorIndex := 130, attributes := #[] }, { accessFlags := 1, nameIndex := 53, descriptorIndex := 54, attributes := #[] }] 33 43 #[278, 280, 282] #[{ accessFlags := 128, nameIndex := 7, descriptorIndex := 8, attributes := #[] }, { accessFlags := 128, nameIndex := 26, descriptorIndex := 23, attributes := #[] }, { accessFlags := 128, nameIndex := 22, descriptorIndex := 23, attributes := #[] }, { accessFlags := 26, nameIndex := 284, descriptorIndex := 23, attributes := #[] }, { accessFlags := 26, nameIndex := 286, descriptorIndex := 287, attributes := #[] }])
  fields := #[{ name := "elements", type := (.array (.object "java/lang/Object")), accessFlags := 128, slot := 0, constantValue := 0 }, { name := "head", type := .int, accessFlags := 128, slot := 1, constantValue := 0 }, { name := "tail", type := .int, accessFlags := 128, slot := 2, constantValue := 0 }, { name := "MAX_ARRAY_SIZE", type := .int, accessFlags := 26, slot := 0, constantValue := 0 }, { name := "serialVersionUID", type := .long, accessFlags := 26, slot := 1, constantValue := 0 }]
  methods := #[k15m0, k15m1, k15m2]
  instanceTypes := #[(.array (.object "java/lang/Object")), .int, .int]
  staticTypes := #[.int, .long]
  resolved := Array.replicate 438 none
  statics := none }

def pool16 : Array CpInfo := pool [(1, .methodref 2 3), (0, .class_ 4), (0, .nameAndType 5 6), (0, u "java/lang/Object"), (0, u "<init>"), (0, u "()V"), (0, .fieldref 8 9), (0, .class_ 10), (0, .nameAndType 11 12), (0, u "com/example/minos/minos/io/zip/WinZipAesKeys$Expected"), (0, u "strength"), (0, u "I"), (0, .fieldref 8 14), (0, .nameAndType 15 16), (0, u "salt"), (0, u "[B"), (2, u "batch"), (0, u "Lcom/example/minos/minos/io/zip/WinZipAesKeys$Batch;"), (2, u "index"), (0, u "(I[B)V"), (7, .class_ 33), (0, u "com/example/minos/minos/io/zip/WinZipAesKeys")] 5

def k16c0 : Code := { maxStack := 2, maxLocals := 3, code := prog_20_method_1_code, exceptionTable := #[], attributes := #[] }
def k16m0 : Method := { name := "<init>", desc := "(I[B)V", sig := { parameters := [.int, (.array .byte)], returnType := none }, accessFlags := 0, code := some k16c0 }
/-- com/example/minos/minos/io/zip/WinZipAesKeys$Expected -/
def k16 : Class := { plain "com/example/minos/minos/io/zip/WinZipAesKeys$Expected" (some 0) with
  accessFlags := 32
  interfaces := #[]
  cf := some (fileOf pool16 8 #[.nestHost 32] #[{ accessFlags := 0, nameIndex := 5, descriptorIndex := 24, attributes := #[] }] 32 2 #[] #[{ accessFlags := 18, nameIndex := 11, descriptorIndex := 12, attributes := #[] }, { accessFlags := 18, nameIndex := 15, descriptorIndex := 16, attributes := #[] }, { accessFlags := 2, nameIndex := 19, descriptorIndex := 20, attributes := #[] }, { accessFlags := 2, nameIndex := 23, descriptorIndex := 12, attributes := #[] }])
  fields := #[{ name := "strength", type := .int, accessFlags := 18, slot := 0, constantValue := 0 }, { name := "salt", type := (.array .byte), accessFlags := 18, slot := 1, constantValue := 0 }, { name := "batch", type := (.object "com/example/minos/minos/io/zip/WinZipAesKeys$Batch"), accessFlags := 2, slot := 2, constantValue := 0 }, { name := "index", type := .int, accessFlags := 2, slot := 3, constantValue := 0 }]
  methods := #[k16m0]
  instanceTypes := #[.int, (.array .byte), (.object "com/example/minos/minos/io/zip/WinZipAesKeys$Batch"), .int]
  staticTypes := #[]
  resolved := Array.replicate 39 none
  statics := none }

def pool17 : Array CpInfo := pool [(1, .class_ 2), (0, u "java/lang/Math"), (1, .class_ 6), (1, u "java/lang/Object"), (0, u "<init>"), (0, u "()V"), (89, .class_ 100), (1, u "java/lang/Math$RandomNumberGeneratorHolder"), (71, u "negativeZeroFloatBits"), (0, u "J"), (2, u "negativeZeroDoubleBits"), (21, u "max"), (46, u "$assertionsDisabled"), (0, u "Z"), (88, u "(II)I"), (2, u "twoToTheDoubleScaleDown"), (0, u "D"), (4, u "twoToTheDoubleScaleUp"), (9, u "E"), (3, u "PI"), (2, u "TAU"), (2, u "DEGREES_TO_RADIANS"), (0, u "RADIANS_TO_DEGREES")] 94

def k17m0 : Method := { name := "<init>", desc := "()V", sig := { parameters := [], returnType := none }, accessFlags := 2, code := none }
def k17c1 : Code := { maxStack := 2, maxLocals := 2, code := jdk_29_method_65_code, exceptionTable := #[], attributes := #[] }
def k17m1 : Method := { name := "max", desc := "(II)I", sig := { parameters := [.int, .int], returnType := some .int }, accessFlags := 9, code := some k17c1 }
/-- java/lang/Math -/
def k17 : Class := { plain "java/lang/Math" (some 0) with
  accessFlags := 49
  interfaces := #[]
  cf := some (fileOf pool17 1 #[.nestMembers #[98]] #[{ accessFlags := 2, nameIndex := 7, descriptorIndex := 8, attributes := #[] }, { accessFlags := 9, nameIndex := 198, descriptorIndex := 335, attributes := #[] }] 49 4 #[] #[{ accessFlags := 25, nameIndex := 354, descriptorIndex := 339, attributes := #[] }, { accessFlags := 25, nameIndex := 358, descriptorIndex := 339, attributes := #[] }, { accessFlags := 25, nameIndex := 361, descriptorIndex := 339, attributes := #[] }, { accessFlags := 26, nameIndex := 364, descriptorIndex := 339, attributes := #[] }, { accessFlags := 26, nameIndex := 365, descriptorIndex := 339, attributes := #[] }, { accessFlags := 26, nameIndex := 172, descriptorIndex := 173, attributes := #[] }, { accessFlags := 26, nameIndex := 176, descriptorIndex := 173, attributes := #[] }, { accessFlags := 8, nameIndex := 344, descriptorIndex := 339, attributes := #[] }, { accessFlags := 8, nameIndex := 338, descriptorIndex := 339, attributes := #[] }, { accessFlags := 4120, nameIndex := 245, descriptorIndex := 246, attributes := #[] }])
  fields := #[{ name := "E", type := .double, accessFlags := 25, slot := 0, constantValue := 0 }, { name := "PI", type := .double, accessFlags := 25, slot := 1, constantValue := 0 }, { name := "TAU", type := .double, accessFlags := 25, slot := 2, constantValue := 0 }, { name := "DEGREES_TO_RADIANS", type := .double, accessFlags := 26, slot := 3, constantValue := 0 }, { name := "RADIANS_TO_DEGREES", type := .double, accessFlags := 26, slot := 4, constantValue := 0 }, { name := "negativeZeroFloatBits", type := .long, accessFlags := 26, slot := 5, constantValue := 0 }, { name := "negativeZeroDoubleBits", type := .long, accessFlags := 26, slot := 6, constantValue := 0 }, { name := "twoToTheDoubleScaleUp", type := .double, accessFlags := 8, slot := 7, constantValue := 0 }, { name := "twoToTheDoubleScaleDown", type := .double, accessFlags := 8, slot := 8, constantValue := 0 }, { name := "$assertionsDisabled", type := .boolean, accessFlags := 4120, slot := 9, constantValue := 0 }]
  methods := #[k17m0, k17m1]
  instanceTypes := #[]
  staticTypes := #[.double, .double, .double, .double, .double, .long, .long, .double, .double, .boolean]
  resolved := Array.replicate 460 none
  statics := none }

/-- the primitive byte -/
def k18 : Class := { plain "byte" none with kind := .primitive 'B', accessFlags := 0x411 }
/-- [B -/
def k19 : Class := { plain "[B" (some 0) with kind := .array 18 .byte, interfaces := #[10, 11], accessFlags := 1041 }

/-- the primitive char -/
def k20 : Class := { plain "char" none with kind := .primitive 'C', accessFlags := 0x411 }
/-- [C -/
def k21 : Class := { plain "[C" (some 0) with kind := .array 20 .char, interfaces := #[10, 11], accessFlags := 1041 }

/-- the primitive int -/
def k22 : Class := { plain "int" none with kind := .primitive 'I', accessFlags := 0x411 }
/-- [I -/
def k23 : Class := { plain "[I" (some 0) with kind := .array 22 .int, interfaces := #[10, 11], accessFlags := 1041 }

/-- [Ljava/lang/Object; -/
def k24 : Class := { plain "[Ljava/lang/Object;" (some 0) with kind := .array 0 (.object "java/lang/Object"), interfaces := #[10, 11], accessFlags := 1041 }

def heap : Heap := #[{ cls := 12, slots := #[.long 0, .int 0, .ref 1, .ref 2], vm := .statics 12 },
  { cls := 24, slots := #[], vm := .none },
  { cls := 24, slots := #[], vm := .none }]
def classes : Array Class := #[k0, k1, k2, k3, k4, k5, k6, k7, k8, k9, k10, k11, k12, k13, k14, k15, k16, k17, k18, k19, k20, k21, k22, k23, k24]
def interned : List (Array UInt16 × Addr) := []
def slotsUsed : Nat := 4
def theMethod : MethodId := ⟨1, 1⟩
def args0 : Array Value := #[.int 3, .int 3, .int 2, .int 7, .int 1]
def aboutOver (below : List Frame) : State where
  vm := { classes := classes, interned := interned.toArray }
  heap := heap
  slotsUsed := slotsUsed
  threads := #[{ frames := .invoking theMethod args0 :: below }]
def below0 : List Frame := [.native { method := ⟨0, 0⟩, args := #[] }]
def about1 : State := aboutOver below0
def p0 : Program := .bare "" "" ""
def e0 : Env := launch0.env 0 0 0
theorem w_frames : about1.frames = Frame.invoking theMethod args0 :: below0 := rfl
set_option maxRecDepth 65536 in
theorem w_args : argsFit about1.vm theMethod args0 = true := by decide +kernel
set_option maxRecDepth 65536 in
theorem w_heap : heapFits about1 = true := by decide +kernel
set_option maxRecDepth 65536 in
theorem w_runnable : about1.curStatus? = some .runnable := by decide +kernel
set_option maxRecDepth 65536 in
theorem w_alone : about1.alone = true := by decide +kernel
set_option maxRecDepth 65536 in
theorem w_named : about1.methodNamed? x = some theMethod := by decide +kernel
set_option maxRecDepth 65536 in
theorem w_hears : about1.hears theMethod below0 = true := by decide +kernel
set_option maxRecDepth 65536 in
theorem w_ripe : about1.ripe theMethod args0 below0 = true := by decide +kernel
theorem w_running : about1.status = .running := rfl
set_option maxRecDepth 65536 in
theorem w_room : about1.hasRoom e0.platform room_1 = true :=
  launch0.hasRoom_least _ room_1 (by decide +kernel) (by decide +kernel) (by decide +kernel) (by decide +kernel) (by decide +kernel) (by decide +kernel)
theorem allAtoms_all (ts : List Jvm.Cond) (a : Array Jvm.Value) (st : Jvm.State) : (allAtoms ts).before a st = ts.all (fun c => c.before a st) := by
  induction ts with
  | nil => rfl
  | cons c t ih =>
    show (Jvm.Cond.and c (allAtoms t)).before a st = _
    rw [Jvm.Cond.before_and, ih, List.all_cons]
def words1 : List Jvm.Cond := Jvm.Cond.code x code maxLocals ret :: tables_1
/-- a 'code' word, met by the world's own term for the bytes: nothing is compared byte by byte -/
theorem code_word {y : MethodName} {bytes : ByteArray} {mx : Nat} {rt : Option FieldType} {a : Array Value} {s : State} {m : MethodId} {meth : Method} {c : Code} (h1 : s.methodNamed? y = some m) (h2 : s.vm.method? m = some meth) (h3 : meth.code = some c) (h4 : c.code = bytes)
    (h5 : (c.maxLocals == mx && c.exceptionTable.isEmpty && decide (c.maxStack ≤ mostOperands) && decide (meth.sig.returnType = rt) && !meth.locks && decide (parseMethodDescriptor y.desc = some meth.sig)) = true) : (Jvm.Cond.code y bytes mx rt).before a s = true := by
  simp only [Bool.and_eq_true, beq_iff_eq, Bool.not_eq_true', decide_eq_true_eq] at h5
  obtain ⟨⟨⟨⟨⟨g1, g2⟩, g3⟩, g4⟩, g5⟩, g6⟩ := h5
  simp [Cond.before, Cond.holds, Cond.value, h1, h2, h3, h4, g1, g2, g3, g4, g5, g6]
def isCode : Jvm.Cond → Bool
  | .code _ _ _ _ => true
  | _ => false
theorem all_split {L : List Jvm.Cond} {P : Jvm.Cond → Bool} (h1 : L.all (fun c => isCode c || P c) = true) (h2 : ∀ c ∈ L.filter isCode, P c = true) : L.all P = true := by
  refine List.all_eq_true.mpr fun c hc => ?_
  have h := List.all_eq_true.mp h1 c hc
  rcases Bool.eq_false_or_eq_true (isCode c) with hi | hi
  · exact h2 c (List.mem_filter.mpr ⟨hc, hi⟩)
  · simpa [hi] using h
set_option maxRecDepth 65536 in
theorem w_c0 : (Jvm.Cond.code x code maxLocals ret).before args0 about1 = true := code_word (m := ⟨1, 1⟩) (meth := k1m1) (c := k1c1) (by decide +kernel) rfl rfl rfl (by decide +kernel)
set_option maxRecDepth 65536 in
theorem w_c1 : (Jvm.Cond.code ({ cls := "com/example/minos/minos/io/zip/WinZipAesKeys", name := "<init>", desc := "([C)V" } : Jvm.MethodName) prog_18_method_1_code (2 : Nat) (Option.none : Option Jvm.ClassFile.FieldType)).before args0 about1 = true := code_word (m := ⟨2, 0⟩) (meth := k2m0) (c := k2c0) (by decide +kernel) rfl rfl rfl (by decide +kernel)
set_option maxRecDepth 65536 in
theorem w_c2 : (Jvm.Cond.code ({ cls := "java/lang/Object", name := "<init>", desc := "()V" } : Jvm.MethodName) object_method_1_code (1 : Nat) (Option.none : Option Jvm.ClassFile.FieldType)).before args0 about1 = true := code_word (m := ⟨0, 0⟩) (meth := k0m0) (c := k0c0) (by decide +kernel) rfl rfl rfl (by decide +kernel)
set_option maxRecDepth 65536 in
theorem w_c3 : (Jvm.Cond.code ({ cls := "java/util/ArrayList", name := "<init>", desc := "()V" } : Jvm.MethodName) jdk_38_method_2_code (1 : Nat) (Option.none : Option Jvm.ClassFile.FieldType)).before args0 about1 = true := code_word (m := ⟨12, 0⟩) (meth := k12m0) (c := k12c0) (by decide +kernel) rfl rfl rfl (by decide +kernel)
set_option maxRecDepth 65536 in
theorem w_c4 : (Jvm.Cond.code ({ cls := "java/util/AbstractList", name := "<init>", desc := "()V" } : Jvm.MethodName) jdk_39_method_1_code (1 : Nat) (Option.none : Option Jvm.ClassFile.FieldType)).before args0 about1 = true := code_word (m := ⟨8, 0⟩) (meth := k8m0) (c := k8c0) (by decide +kernel) rfl rfl rfl (by decide +kernel)
set_option maxRecDepth 65536 in
theorem w_c5 : (Jvm.Cond.code ({ cls := "java/util/AbstractCollection", name := "<init>", desc := "()V" } : Jvm.MethodName) jdk_22_method_1_code (1 : Nat) (Option.none : Option Jvm.ClassFile.FieldType)).before args0 about1 = true := code_word (m := ⟨5, 0⟩) (meth := k5m0) (c := k5c0) (by decide +kernel) rfl rfl rfl (by decide +kernel)
set_option maxRecDepth 65536 in
theorem w_c6 : (Jvm.Cond.code ({ cls := "java/util/ArrayDeque", name := "<init>", desc := "()V" } : Jvm.MethodName) jdk_21_method_3_code (1 : Nat) (Option.none : Option Jvm.ClassFile.FieldType)).before args0 about1 = true := code_word (m := ⟨15, 0⟩) (meth := k15m0) (c := k15c0) (by decide +kernel) rfl rfl rfl (by decide +kernel)
set_option maxRecDepth 65536 in
theorem w_c7 : (Jvm.Cond.code ({ cls := "com/example/minos/minos/io/zip/WinZipAesKeys", name := "expectsAhead", desc := "()Z" } : Jvm.MethodName) prog_18_method_4_code (1 : Nat) (Option.some Jvm.ClassFile.FieldType.boolean)).before args0 about1 = true := code_word (m := ⟨2, 1⟩) (meth := k2m1) (c := k2c1) (by decide +kernel) rfl rfl rfl (by decide +kernel)
set_option maxRecDepth 65536 in
theorem w_c8 : (Jvm.Cond.code ({ cls := "com/example/minos/minos/io/zip/WinZipAesKeys", name := "expect", desc := "(I[B)V" } : Jvm.MethodName) prog_18_method_5_code (3 : Nat) (Option.none : Option Jvm.ClassFile.FieldType)).before args0 about1 = true := code_word (m := ⟨2, 2⟩) (meth := k2m2) (c := k2c2) (by decide +kernel) rfl rfl rfl (by decide +kernel)
set_option maxRecDepth 65536 in
theorem w_c9 : (Jvm.Cond.code ({ cls := "com/example/minos/minos/io/zip/WinZipAesKeys", name := "expectedLeft", desc := "()I" } : Jvm.MethodName) prog_18_method_6_code (1 : Nat) (Option.some Jvm.ClassFile.FieldType.int)).before args0 about1 = true := code_word (m := ⟨2, 3⟩) (meth := k2m3) (c := k2c3) (by decide +kernel) rfl rfl rfl (by decide +kernel)
set_option maxRecDepth 65536 in
theorem w_c10 : (Jvm.Cond.code ({ cls := "java/util/ArrayDeque", name := "size", desc := "()I" } : Jvm.MethodName) jdk_21_method_37_code (1 : Nat) (Option.some Jvm.ClassFile.FieldType.int)).before args0 about1 = true := code_word (m := ⟨15, 2⟩) (meth := k15m2) (c := k15c2) (by decide +kernel) rfl rfl rfl (by decide +kernel)
set_option maxRecDepth 65536 in
theorem w_c11 : (Jvm.Cond.code ({ cls := "java/util/ArrayDeque", name := "sub", desc := "(III)I" } : Jvm.MethodName) jdk_21_method_9_code (3 : Nat) (Option.some Jvm.ClassFile.FieldType.int)).before args0 about1 = true := code_word (m := ⟨15, 1⟩) (meth := k15m1) (c := k15c1) (by decide +kernel) rfl rfl rfl (by decide +kernel)
set_option maxRecDepth 65536 in
theorem w_c12 : (Jvm.Cond.code ({ cls := "java/util/ArrayList", name := "size", desc := "()I" } : Jvm.MethodName) jdk_38_method_8_code (1 : Nat) (Option.some Jvm.ClassFile.FieldType.int)).before args0 about1 = true := code_word (m := ⟨12, 3⟩) (meth := k12m3) (c := k12c3) (by decide +kernel) rfl rfl rfl (by decide +kernel)
set_option maxRecDepth 65536 in
theorem w_c13 : (Jvm.Cond.code ({ cls := "com/example/minos/minos/io/zip/WinZipAesKeys$Expected", name := "<init>", desc := "(I[B)V" } : Jvm.MethodName) prog_20_method_1_code (3 : Nat) (Option.none : Option Jvm.ClassFile.FieldType)).before args0 about1 = true := code_word (m := ⟨16, 0⟩) (meth := k16m0) (c := k16c0) (by decide +kernel) rfl rfl rfl (by decide +kernel)
set_option maxRecDepth 65536 in
theorem w_c14 : (Jvm.Cond.code ({ cls := "java/util/ArrayList", name := "add", desc := "(Ljava/lang/Object;)Z" } : Jvm.MethodName) jdk_38_method_25_code (2 : Nat) (Option.some Jvm.ClassFile.FieldType.boolean)).before args0 about1 = true := code_word (m := ⟨12, 5⟩) (meth := k12m5) (c := k12c5) (by decide +kernel) rfl rfl rfl (by decide +kernel)
set_option maxRecDepth 65536 in
theorem w_c15 : (Jvm.Cond.code ({ cls := "java/util/ArrayList", name := "add", desc := "(Ljava/lang/Object;[Ljava/lang/Object;I)V" } : Jvm.MethodName) jdk_38_method_24_code (4 : Nat) (Option.none : Option Jvm.ClassFile.FieldType)).before args0 about1 = true := code_word (m := ⟨12, 4⟩) (meth := k12m4) (c := k12c4) (by decide +kernel) rfl rfl rfl (by decide +kernel)
set_option maxRecDepth 65536 in
theorem w_c16 : (Jvm.Cond.code ({ cls := "java/util/ArrayList", name := "grow", desc := "()[Ljava/lang/Object;" } : Jvm.MethodName) jdk_38_method_7_code (1 : Nat) (Option.some (Jvm.ClassFile.FieldType.array (Jvm.ClassFile.FieldType.object "java/lang/Object")))).before args0 about1 = true := code_word (m := ⟨12, 2⟩) (meth := k12m2) (c := k12c2) (by decide +kernel) rfl rfl rfl (by decide +kernel)
set_option maxRecDepth 65536 in
theorem w_c17 : (Jvm.Cond.code ({ cls := "java/util/ArrayList", name := "grow", desc := "(I)[Ljava/lang/Object;" } : Jvm.MethodName) jdk_38_method_6_code (4 : Nat) (Option.some (Jvm.ClassFile.FieldType.array (Jvm.ClassFile.FieldType.object "java/lang/Object")))).before args0 about1 = true := code_word (m := ⟨12, 1⟩) (meth := k12m1) (c := k12c1) (by decide +kernel) rfl rfl rfl (by decide +kernel)
set_option maxRecDepth 65536 in
theorem w_c18 : (Jvm.Cond.code ({ cls := "java/lang/Math", name := "max", desc := "(II)I" } : Jvm.MethodName) jdk_29_method_65_code (2 : Nat) (Option.some Jvm.ClassFile.FieldType.int)).before args0 about1 = true := code_word (m := ⟨17, 1⟩) (meth := k17m1) (c := k17c1) (by decide +kernel) rfl rfl rfl (by decide +kernel)
def codes1 : List Jvm.Cond := [Jvm.Cond.code x code maxLocals ret, Jvm.Cond.code ({ cls := "com/example/minos/minos/io/zip/WinZipAesKeys", name := "<init>", desc := "([C)V" } : Jvm.MethodName) prog_18_method_1_code (2 : Nat) (Option.none : Option Jvm.ClassFile.FieldType), Jvm.Cond.code ({ cls := "java/lang/Object", name := "<init>", desc := "()V" } : Jvm.MethodName) object_method_1_code (1 : Nat) (Option.none : Option Jvm.ClassFile.FieldType), Jvm.Cond.code ({ cls := "java/util/ArrayList", name := "<init>", desc := "()V" } : Jvm.MethodName) jdk_38_method_2_code (1 : Nat) (Option.none : Option Jvm.ClassFile.FieldType), Jvm.Cond.code ({ cls := "java/util/AbstractList", name := "<init>", desc := "()V" } : Jvm.MethodName) jdk_39_method_1_code (1 : Nat) (Option.none : Option Jvm.ClassFile.FieldType), Jvm.Cond.code ({ cls := "java/util/AbstractCollection", name := "<init>", desc := "()V" } : Jvm.MethodName) jdk_22_method_1_code (1 : Nat) (Option.none : Option Jvm.ClassFile.FieldType), Jvm.Cond.code ({ cls := "java/util/ArrayDeque", name := "<init>", desc := "()V" } : Jvm.MethodName) jdk_21_method_3_code (1 : Nat) (Option.none : Option Jvm.ClassFile.FieldType), Jvm.Cond.code ({ cls := "com/example/minos/minos/io/zip/WinZipAesKeys", name := "expectsAhead", desc := "()Z" } : Jvm.MethodName) prog_18_method_4_code (1 : Nat) (Option.some Jvm.ClassFile.FieldType.boolean), Jvm.Cond.code ({ cls := "com/example/minos/minos/io/zip/WinZipAesKeys", name := "expect", desc := "(I[B)V" } : Jvm.MethodName) prog_18_method_5_code (3 : Nat) (Option.none : Option Jvm.ClassFile.FieldType), Jvm.Cond.code ({ cls := "com/example/minos/minos/io/zip/WinZipAesKeys", name := "expectedLeft", desc := "()I" } : Jvm.MethodName) prog_18_method_6_code (1 : Nat) (Option.some Jvm.ClassFile.FieldType.int), Jvm.Cond.code ({ cls := "java/util/ArrayDeque", name := "size", desc := "()I" } : Jvm.MethodName) jdk_21_method_37_code (1 : Nat) (Option.some Jvm.ClassFile.FieldType.int), Jvm.Cond.code ({ cls := "java/util/ArrayDeque", name := "sub", desc := "(III)I" } : Jvm.MethodName) jdk_21_method_9_code (3 : Nat) (Option.some Jvm.ClassFile.FieldType.int), Jvm.Cond.code ({ cls := "java/util/ArrayList", name := "size", desc := "()I" } : Jvm.MethodName) jdk_38_method_8_code (1 : Nat) (Option.some Jvm.ClassFile.FieldType.int), Jvm.Cond.code ({ cls := "com/example/minos/minos/io/zip/WinZipAesKeys$Expected", name := "<init>", desc := "(I[B)V" } : Jvm.MethodName) prog_20_method_1_code (3 : Nat) (Option.none : Option Jvm.ClassFile.FieldType), Jvm.Cond.code ({ cls := "java/util/ArrayList", name := "add", desc := "(Ljava/lang/Object;)Z" } : Jvm.MethodName) jdk_38_method_25_code (2 : Nat) (Option.some Jvm.ClassFile.FieldType.boolean), Jvm.Cond.code ({ cls := "java/util/ArrayList", name := "add", desc := "(Ljava/lang/Object;[Ljava/lang/Object;I)V" } : Jvm.MethodName) jdk_38_method_24_code (4 : Nat) (Option.none : Option Jvm.ClassFile.FieldType), Jvm.Cond.code ({ cls := "java/util/ArrayList", name := "grow", desc := "()[Ljava/lang/Object;" } : Jvm.MethodName) jdk_38_method_7_code (1 : Nat) (Option.some (Jvm.ClassFile.FieldType.array (Jvm.ClassFile.FieldType.object "java/lang/Object"))), Jvm.Cond.code ({ cls := "java/util/ArrayList", name := "grow", desc := "(I)[Ljava/lang/Object;" } : Jvm.MethodName) jdk_38_method_6_code (4 : Nat) (Option.some (Jvm.ClassFile.FieldType.array (Jvm.ClassFile.FieldType.object "java/lang/Object"))), Jvm.Cond.code ({ cls := "java/lang/Math", name := "max", desc := "(II)I" } : Jvm.MethodName) jdk_29_method_65_code (2 : Nat) (Option.some Jvm.ClassFile.FieldType.int)]
set_option maxRecDepth 65536 in
theorem codes_eq : words1.filter isCode = codes1 := rfl
theorem w_codes : ∀ c ∈ words1.filter isCode, c.before args0 about1 = true := by
  rw [codes_eq]
  intro c hc
  simp only [codes1, List.mem_cons, List.not_mem_nil, or_false] at hc
  rcases hc with rfl | rfl | rfl | rfl | rfl | rfl | rfl | rfl | rfl | rfl | rfl | rfl | rfl | rfl | rfl | rfl | rfl | rfl | rfl
  · exact w_c0
  · exact w_c1
  · exact w_c2
  · exact w_c3
  · exact w_c4
  · exact w_c5
  · exact w_c6
  · exact w_c7
  · exact w_c8
  · exact w_c9
  · exact w_c10
  · exact w_c11
  · exact w_c12
  · exact w_c13
  · exact w_c14
  · exact w_c15
  · exact w_c16
  · exact w_c17
  · exact w_c18
set_option maxRecDepth 65536 in
theorem w_t1 : (words1.take 24).all (fun c => isCode c || c.before args0 about1) = true := by decide +kernel
set_option maxRecDepth 65536 in
theorem w_t2 : ((words1.drop 24).take 24).all (fun c => isCode c || c.before args0 about1) = true := by decide +kernel
set_option maxRecDepth 65536 in
theorem w_t3 : (((words1.drop 24).drop 24).take 24).all (fun c => isCode c || c.before args0 about1) = true := by decide +kernel
set_option maxRecDepth 65536 in
theorem w_t4 : ((((words1.drop 24).drop 24).drop 24).take 24).all (fun c => isCode c || c.before args0 about1) = true := by decide +kernel
set_option maxRecDepth 65536 in
theorem w_t5 : (((((words1.drop 24).drop 24).drop 24).drop 24).take 24).all (fun c => isCode c || c.before args0 about1) = true := by decide +kernel
set_option maxRecDepth 65536 in
theorem w_t6 : (((((words1.drop 24).drop 24).drop 24).drop 24).drop 24).all (fun c => isCode c || c.before args0 about1) = true := by decide +kernel
theorem w_tables : (allAtoms (Jvm.Cond.code x code maxLocals ret :: tables_1)).before args0 about1 = true := by
  rw [allAtoms_all]
  show words1.all (fun c => c.before args0 about1) = true
  refine all_split ?_ w_codes
  rw [← List.take_append_drop 24 words1, List.all_append, w_t1, ← List.take_append_drop 24 (words1.drop 24), List.all_append, w_t2, ← List.take_append_drop 24 ((words1.drop 24).drop 24), List.all_append, w_t3, ← List.take_append_drop 24 (((words1.drop 24).drop 24).drop 24), List.all_append, w_t4, ← List.take_append_drop 24 ((((words1.drop 24).drop 24).drop 24).drop 24), List.all_append, w_t5, w_t6]
  rfl
set_option maxRecDepth 65536 in
theorem w_rest : rest_1_c.before args0 about1 = true := by decide +kernel
set_option maxRecDepth 65536 in
theorem w_case : (Jvm.Cond.and given_1 narrow_1).before args0 about1 = true := by decide +kernel
theorem w_applies : (headSpec (Jvm.Cond.code x code maxLocals ret :: tables_1) room_1).applies x e0.platform about1 = true :=
  (Spec.applies_iff w_frames).mpr ⟨w_running, w_runnable, w_alone, w_named, w_hears, w_ripe, w_room, w_tables⟩
theorem atStart : AtStart classFile x code maxLocals ret World_1 tables_1 room_1 Calls_1 rest_1 Pre_1 launch0 p0 e0 about1 theMethod args0 below0 :=
  ⟨lists_1, trivial, launch0.admits_env _ _ _, launch0.least_env, fairChoices_fair.cas, fairChoices_fair.clock, w_frames, w_args, w_heap, w_applies, trivial, w_rest, w_case⟩
end start1
theorem witness_1 : WitnessClaimed_1 := ⟨start1.p0, start1.e0, start1.about1, start1.theMethod, start1.args0, start1.below0, start1.atStart⟩
end Jvm.Pilot.@@N@@
