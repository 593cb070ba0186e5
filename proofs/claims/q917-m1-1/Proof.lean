import JvmDerived
import JvmDerived.Pilot.@@N@@Statement
import JvmDerived.Pilot.@@N@@Code
set_option linter.unusedVariables false
set_option linter.unusedSimpArgs false
namespace Jvm.Pilot.@@N@@
open Jvm Jvm.ClassFile Sem Op Lib Jvm.Free Jvm.Stand Jvm.LawKit Jvm.RoadKit Bundle Jvm.Pilot.@@N@@.Jvm.D
/-- from the frame (pc, ls, st) over the heap h the goal G is reached -/
def Run (p : Program) (l : Launch) (e : Env) (R : Room) (s : State) (m : MethodId) (args : Array Value) (below : List Frame) (meth : Method) (c : Code) (Z : State) (own : String) (V : Vm → Nat → Prop) (n0 : Nat) (G : State → Outcome → Prop) (h : Heap) (cells slots pc : Nat) (ls : Array Slot) (st : List Value) : Prop :=
  ∀ (vm0 : Vm) (k0 : Nat) (T : State) (L : List Loc), Stand p l e R (s.setVm vm0) m args below meth c T L cells slots → V vm0 k0 → k0 ≤ h.size → Z.Warmed39 vm0 → vm0.findClass own = some m.cls → Fr n0 L → T.heap = h →
    ∃ U o, Steps p.tables e below (T.setTop (mkF m pc ls st)) U ∧ U.status = .running ∧ Ended U below o ∧ G U o
/-- what is known of the body -/
def Cx (p : Program) (c : Code) (meth : Method) (bytes : ByteArray) (maxL : Nat) (ret : Option FieldType) (nm : String) : Prop := p.tables.exec = Jvm.exec ∧ c.code = bytes ∧ c.maxLocals = maxL ∧ meth.sig.returnType = ret ∧ meth.locks = false ∧ meth.name = nm
def plainV (s : State) (vm : Vm) (_ : Nat) : Prop := vm = s.vm
def Gq (s : State) (n0 : Nat) (rm : Room) (P : Option Value → Heap → Prop) (U : State) (o : Outcome) : Prop := ∃ v L, o = .returned v ∧ (P v U.heap ∧ Fr n0 L) ∧ FrameEnd s o U L rm.cells rm.slots
/-- a contract -/
def Con (l : Launch) (Z : State) (y : MethodName) (bytes : ByteArray) (maxL : Nat) (ret : Option FieldType) (rm : Room) (as : Array Value) (h0 : Heap) (n0 : Nat) (P : Option Value → Heap → Prop) : Prop :=
  ∀ ws : List Jvm.Cond, MetFree l y (head1 (Jvm.Cond.code y bytes maxL ret :: ws) rm) (fun a U => a = as ∧ Z.Warmed39 U.vm ∧ U.heap = h0) (fun _ _ _ _ _ => True) (fun _ U o U' => Gq U n0 rm P U' o)
section Kit
variable {p : Program} {l : Launch} {e : Env} {R : Room} {s : State} {m : MethodId} {args : Array Value} {below : List Frame} {meth : Method} {c : Code} {Z : State} {own : String} {V : Vm → Nat → Prop} {n0 : Nat} {G : State → Outcome → Prop} {h : Heap} {cells slots pc pc' : Nat} {ls ls' : Array Slot} {st st' : List Value} {bytes : ByteArray} {maxL : Nat} {ret : Option FieldType} {nm : String} {a0 : Array Value}
theorem Con.of_body {y : MethodName} {rm : Room} {as : Array Value} {h0 : Heap} {P : Option Value → Heap → Prop} (hp : plainFor y = true) (Ls : Array Slot) (hent : ∀ m, entryFrame m as maxL = mkF m 0 Ls [])
    (body : ∀ p e s m below meth c, Cx p c meth bytes maxL ret y.name → Run p l e rm s m as below meth c Z y.cls (plainV s) n0 (Gq s n0 rm P) h0 0 0 0 Ls []) : Con l Z y bytes maxL ret rm as h0 n0 P := by
  intro ws
  refine MetFree.of_bodySF hp hisR ?_
  intro p e s m args below meth c s₁ Bd hml0 hP hK
  obtain ⟨rfl, hZ, hh⟩ := hP
  have hown : s.vm.findClass y.cls = some m.cls := findClass_of_methodNamed Bd.named
  have hnm := (name_of_methodNamed Bd.named Bd.method).1
  obtain ⟨U, o, h1, h2, h3, h4⟩ := body p e s m below meth c ⟨Bd.exec, Bd.bytes, hml0, Bd.returns, BodyLoose.notSynchronized Bd, hnm⟩ s.vm 0 s₁ [] (Stand.of_body Bd) rfl (Nat.zero_le _) hZ hown (Fr.nil n0) (by rw [← hh, Bd.state]; rfl)
  exact ⟨U, o, castTop (hent m) h1, h2, h3, h4⟩
theorem Run.go (hs : ∀ (T t : State), At T m c below → Steps p.tables e below (T.setTop (mkF m pc' ls' st')) t → Steps p.tables e below (T.setTop (mkF m pc ls st)) t) (k : Run p l e R s m args below meth c Z own V n0 G h cells slots pc' ls' st') : Run p l e R s m args below meth c Z own V n0 G h cells slots pc ls st :=
  fun vm0 k0 T L X hV hk hZ ho N eT => by
    obtain ⟨U, o, h1, r⟩ := k vm0 k0 T L X hV hk hZ ho N eT
    exact ⟨U, o, hs T U X.here h1, r⟩
theorem r_iadd {x y z : Int32} (C : Cx p c meth bytes maxL ret nm) (hd : decode bytes pc = .ok (.iadd, 1)) (hp : pc + 1 = pc') (hz : x + y = z) (k : Run p l e R s m args below meth c Z own V n0 G h cells slots pc' ls (.int z :: st)) : Run p l e R s m args below meth c Z own V n0 G h cells slots pc ls (.int y :: .int x :: st) := by
  subst hp hz
  exact k.go fun T t A q => XS.iadd (g := mkF m pc ls (.int y :: .int x :: st)) A C.1 rfl (hb C.2.1 hd) rfl q
theorem r_isub {x y z : Int32} (C : Cx p c meth bytes maxL ret nm) (hd : decode bytes pc = .ok (.isub, 1)) (hp : pc + 1 = pc') (hz : x - y = z) (k : Run p l e R s m args below meth c Z own V n0 G h cells slots pc' ls (.int z :: st)) : Run p l e R s m args below meth c Z own V n0 G h cells slots pc ls (.int y :: .int x :: st) := by
  subst hp hz
  exact k.go fun T t A q => XS.isub (g := mkF m pc ls (.int y :: .int x :: st)) A C.1 rfl (hb C.2.1 hd) rfl q
theorem r_imul {x y z : Int32} (C : Cx p c meth bytes maxL ret nm) (hd : decode bytes pc = .ok (.imul, 1)) (hp : pc + 1 = pc') (hz : x * y = z) (k : Run p l e R s m args below meth c Z own V n0 G h cells slots pc' ls (.int z :: st)) : Run p l e R s m args below meth c Z own V n0 G h cells slots pc ls (.int y :: .int x :: st) := by
  subst hp hz
  exact k.go fun T t A q => XS.imul (g := mkF m pc ls (.int y :: .int x :: st)) A C.1 rfl (hb C.2.1 hd) rfl q
theorem r_iand {x y z : Int32} (C : Cx p c meth bytes maxL ret nm) (hd : decode bytes pc = .ok (.iand, 1)) (hp : pc + 1 = pc') (hz : x &&& y = z) (k : Run p l e R s m args below meth c Z own V n0 G h cells slots pc' ls (.int z :: st)) : Run p l e R s m args below meth c Z own V n0 G h cells slots pc ls (.int y :: .int x :: st) := by
  subst hp hz
  exact k.go fun T t A q => XS.iand (g := mkF m pc ls (.int y :: .int x :: st)) A C.1 rfl (hb C.2.1 hd) rfl q
theorem r_ixor {x y z : Int32} (C : Cx p c meth bytes maxL ret nm) (hd : decode bytes pc = .ok (.ixor, 1)) (hp : pc + 1 = pc') (hz : x ^^^ y = z) (k : Run p l e R s m args below meth c Z own V n0 G h cells slots pc' ls (.int z :: st)) : Run p l e R s m args below meth c Z own V n0 G h cells slots pc ls (.int y :: .int x :: st) := by
  subst hp hz
  exact k.go fun T t A q => XT.ixor (g := mkF m pc ls (.int y :: .int x :: st)) A C.1 rfl (hb C.2.1 hd) rfl q
theorem r_ior {x y z : Int32} (C : Cx p c meth bytes maxL ret nm) (hd : decode bytes pc = .ok (.ior, 1)) (hp : pc + 1 = pc') (hz : x ||| y = z) (k : Run p l e R s m args below meth c Z own V n0 G h cells slots pc' ls (.int z :: st)) : Run p l e R s m args below meth c Z own V n0 G h cells slots pc ls (.int y :: .int x :: st) := by
  subst hp hz
  exact k.go fun T t A q => XT.ior (g := mkF m pc ls (.int y :: .int x :: st)) A C.1 rfl (hb C.2.1 hd) rfl q
theorem r_ishl {x y z : Int32} (C : Cx p c meth bytes maxL ret nm) (hd : decode bytes pc = .ok (.ishl, 1)) (hp : pc + 1 = pc') (hz : x <<< (y &&& 31) = z) (k : Run p l e R s m args below meth c Z own V n0 G h cells slots pc' ls (.int z :: st)) : Run p l e R s m args below meth c Z own V n0 G h cells slots pc ls (.int y :: .int x :: st) := by
  subst hp hz
  exact k.go fun T t A q => XT.ishl (g := mkF m pc ls (.int y :: .int x :: st)) A C.1 rfl (hb C.2.1 hd) rfl q
theorem r_ishr {x y z : Int32} (C : Cx p c meth bytes maxL ret nm) (hd : decode bytes pc = .ok (.ishr, 1)) (hp : pc + 1 = pc') (hz : x >>> (y &&& 31) = z) (k : Run p l e R s m args below meth c Z own V n0 G h cells slots pc' ls (.int z :: st)) : Run p l e R s m args below meth c Z own V n0 G h cells slots pc ls (.int y :: .int x :: st) := by
  subst hp hz
  exact k.go fun T t A q => XT.ishr (g := mkF m pc ls (.int y :: .int x :: st)) A C.1 rfl (hb C.2.1 hd) rfl q
theorem r_iushr {x y z : Int32} (C : Cx p c meth bytes maxL ret nm) (hd : decode bytes pc = .ok (.iushr, 1)) (hp : pc + 1 = pc') (hz : XT.ushr x y = z) (k : Run p l e R s m args below meth c Z own V n0 G h cells slots pc' ls (.int z :: st)) : Run p l e R s m args below meth c Z own V n0 G h cells slots pc ls (.int y :: .int x :: st) := by
  subst hp hz
  exact k.go fun T t A q => XT.iushr (g := mkF m pc ls (.int y :: .int x :: st)) A C.1 rfl (hb C.2.1 hd) rfl q
theorem r_ladd {x y z : Int64} (C : Cx p c meth bytes maxL ret nm) (hd : decode bytes pc = .ok (.ladd, 1)) (hp : pc + 1 = pc') (hz : x + y = z) (k : Run p l e R s m args below meth c Z own V n0 G h cells slots pc' ls (.long z :: st)) : Run p l e R s m args below meth c Z own V n0 G h cells slots pc ls (.long y :: .long x :: st) := by
  subst hp hz
  exact k.go fun T t A q => XT.ladd (g := mkF m pc ls (.long y :: .long x :: st)) A C.1 rfl (hb C.2.1 hd) rfl q
theorem r_lsub {x y z : Int64} (C : Cx p c meth bytes maxL ret nm) (hd : decode bytes pc = .ok (.lsub, 1)) (hp : pc + 1 = pc') (hz : x - y = z) (k : Run p l e R s m args below meth c Z own V n0 G h cells slots pc' ls (.long z :: st)) : Run p l e R s m args below meth c Z own V n0 G h cells slots pc ls (.long y :: .long x :: st) := by
  subst hp hz
  exact k.go fun T t A q => XT.lsub (g := mkF m pc ls (.long y :: .long x :: st)) A C.1 rfl (hb C.2.1 hd) rfl q
theorem r_lmul {x y z : Int64} (C : Cx p c meth bytes maxL ret nm) (hd : decode bytes pc = .ok (.lmul, 1)) (hp : pc + 1 = pc') (hz : x * y = z) (k : Run p l e R s m args below meth c Z own V n0 G h cells slots pc' ls (.long z :: st)) : Run p l e R s m args below meth c Z own V n0 G h cells slots pc ls (.long y :: .long x :: st) := by
  subst hp hz
  exact k.go fun T t A q => XT.lmul (g := mkF m pc ls (.long y :: .long x :: st)) A C.1 rfl (hb C.2.1 hd) rfl q
theorem r_land {x y z : Int64} (C : Cx p c meth bytes maxL ret nm) (hd : decode bytes pc = .ok (.land, 1)) (hp : pc + 1 = pc') (hz : x &&& y = z) (k : Run p l e R s m args below meth c Z own V n0 G h cells slots pc' ls (.long z :: st)) : Run p l e R s m args below meth c Z own V n0 G h cells slots pc ls (.long y :: .long x :: st) := by
  subst hp hz
  exact k.go fun T t A q => XT.land (g := mkF m pc ls (.long y :: .long x :: st)) A C.1 rfl (hb C.2.1 hd) rfl q
theorem r_lor {x y z : Int64} (C : Cx p c meth bytes maxL ret nm) (hd : decode bytes pc = .ok (.lor, 1)) (hp : pc + 1 = pc') (hz : x ||| y = z) (k : Run p l e R s m args below meth c Z own V n0 G h cells slots pc' ls (.long z :: st)) : Run p l e R s m args below meth c Z own V n0 G h cells slots pc ls (.long y :: .long x :: st) := by
  subst hp hz
  exact k.go fun T t A q => XT.lor (g := mkF m pc ls (.long y :: .long x :: st)) A C.1 rfl (hb C.2.1 hd) rfl q
theorem r_lxor {x y z : Int64} (C : Cx p c meth bytes maxL ret nm) (hd : decode bytes pc = .ok (.lxor, 1)) (hp : pc + 1 = pc') (hz : x ^^^ y = z) (k : Run p l e R s m args below meth c Z own V n0 G h cells slots pc' ls (.long z :: st)) : Run p l e R s m args below meth c Z own V n0 G h cells slots pc ls (.long y :: .long x :: st) := by
  subst hp hz
  exact k.go fun T t A q => XT.lxor (g := mkF m pc ls (.long y :: .long x :: st)) A C.1 rfl (hb C.2.1 hd) rfl q
theorem r_lshl {x z : Int64} {y : Int32} (C : Cx p c meth bytes maxL ret nm) (hd : decode bytes pc = .ok (.lshl, 1)) (hp : pc + 1 = pc') (hz : x <<< (y.toInt64 &&& 63) = z) (k : Run p l e R s m args below meth c Z own V n0 G h cells slots pc' ls (.long z :: st)) : Run p l e R s m args below meth c Z own V n0 G h cells slots pc ls (.int y :: .long x :: st) := by
  subst hp hz
  exact k.go fun T t A q => XT.lshl (g := mkF m pc ls (.int y :: .long x :: st)) A C.1 rfl (hb C.2.1 hd) rfl q
theorem r_lshr {x z : Int64} {y : Int32} (C : Cx p c meth bytes maxL ret nm) (hd : decode bytes pc = .ok (.lshr, 1)) (hp : pc + 1 = pc') (hz : x >>> (y.toInt64 &&& 63) = z) (k : Run p l e R s m args below meth c Z own V n0 G h cells slots pc' ls (.long z :: st)) : Run p l e R s m args below meth c Z own V n0 G h cells slots pc ls (.int y :: .long x :: st) := by
  subst hp hz
  exact k.go fun T t A q => XT.lshr (g := mkF m pc ls (.int y :: .long x :: st)) A C.1 rfl (hb C.2.1 hd) rfl q
theorem r_lushr {x z : Int64} {y : Int32} (C : Cx p c meth bytes maxL ret nm) (hd : decode bytes pc = .ok (.lushr, 1)) (hp : pc + 1 = pc') (hz : XT.ushrL x y = z) (k : Run p l e R s m args below meth c Z own V n0 G h cells slots pc' ls (.long z :: st)) : Run p l e R s m args below meth c Z own V n0 G h cells slots pc ls (.int y :: .long x :: st) := by
  subst hp hz
  exact k.go fun T t A q => XT.lushr (g := mkF m pc ls (.int y :: .long x :: st)) A C.1 rfl (hb C.2.1 hd) rfl q
theorem irem_mod (x y : Int32) : x - (x / y) * y = x % y := by
  have h : ∀ a b : Int, a - a.tdiv b * b = a.tmod b := fun a b => by have := Int.mul_tdiv_add_tmod a b; rw [Int.mul_comm] at this; omega
  by_cases hy : y = -1
  · subst hy
    apply Int32.toInt_inj.mp
    have h1 := c_isub x ((x / -1) * -1)
    have h2 := c_imul (x / -1) (-1)
    have h3 := c_idivM x (-1) rfl
    have h4 : (x % (-1 : Int32)).toInt = 0 := by rw [Int32.toInt_mod]; show x.toInt.tmod (-1) = 0; simp
    have h5 := rng32 (x - (x / -1) * -1)
    have h6 : ((-1 : Int32)).toInt = -1 := by decide
    rw [h6] at h2
    rw [h4]
    omega
  · apply Int32.toInt_inj.mp
    have h1 := c_isub x ((x / y) * y)
    have h2 := c_imul (x / y) y
    have h3 := Int32.toInt_div_of_ne_right x y hy
    have h4 := Int32.toInt_mod x y
    have h5 := rng32 (x - (x / y) * y)
    have h6 := rng32 (x % y)
    have h7 := h x.toInt y.toInt
    rw [h3] at h2
    rw [← h7] at h4
    omega
theorem r_idiv {x y z : Int32} (C : Cx p c meth bytes maxL ret nm) (hd : decode bytes pc = .ok (.idiv, 1)) (hp : pc + 1 = pc') (hy : y ≠ 0) (hz : x / y = z) (k : Run p l e R s m args below meth c Z own V n0 G h cells slots pc' ls (.int z :: st)) : Run p l e R s m args below meth c Z own V n0 G h cells slots pc ls (.int y :: .int x :: st) := by
  subst hp hz
  exact k.go fun T t A q => XS.idiv (g := mkF m pc ls (.int y :: .int x :: st)) A C.1 rfl (hb C.2.1 hd) rfl hy q
theorem r_irem {x y z : Int32} (C : Cx p c meth bytes maxL ret nm) (hd : decode bytes pc = .ok (.irem, 1)) (hp : pc + 1 = pc') (hy : y ≠ 0) (hz : x % y = z) (k : Run p l e R s m args below meth c Z own V n0 G h cells slots pc' ls (.int z :: st)) : Run p l e R s m args below meth c Z own V n0 G h cells slots pc ls (.int y :: .int x :: st) := by
  subst hp hz
  exact k.go fun T t A q => XS.irem (g := mkF m pc ls (.int y :: .int x :: st)) A C.1 rfl (hb C.2.1 hd) rfl hy (by rw [irem_mod]; exact q)
theorem r_ldiv {x y z : Int64} (C : Cx p c meth bytes maxL ret nm) (hd : decode bytes pc = .ok (.ldiv, 1)) (hp : pc + 1 = pc') (hy : y ≠ 0) (hz : x / y = z) (k : Run p l e R s m args below meth c Z own V n0 G h cells slots pc' ls (.long z :: st)) : Run p l e R s m args below meth c Z own V n0 G h cells slots pc ls (.long y :: .long x :: st) := by
  subst hp hz
  exact k.go fun T t A q => XT.ldiv (g := mkF m pc ls (.long y :: .long x :: st)) A C.1 rfl (hb C.2.1 hd) rfl hy q
theorem r_lrem {x y z : Int64} (C : Cx p c meth bytes maxL ret nm) (hd : decode bytes pc = .ok (.lrem, 1)) (hp : pc + 1 = pc') (hy : y ≠ 0) (hz : x % y = z) (k : Run p l e R s m args below meth c Z own V n0 G h cells slots pc' ls (.long z :: st)) : Run p l e R s m args below meth c Z own V n0 G h cells slots pc ls (.long y :: .long x :: st) := by
  subst hp hz
  exact k.go fun T t A q => XT.lrem (g := mkF m pc ls (.long y :: .long x :: st)) A C.1 rfl (hb C.2.1 hd) rfl hy (by rw [lrem_mod]; exact q)
theorem r_ineg {x z : Int32} (C : Cx p c meth bytes maxL ret nm) (hd : decode bytes pc = .ok (.ineg, 1)) (hp : pc + 1 = pc') (hz : -x = z) (k : Run p l e R s m args below meth c Z own V n0 G h cells slots pc' ls (.int z :: st)) : Run p l e R s m args below meth c Z own V n0 G h cells slots pc ls (.int x :: st) := by
  subst hp hz
  exact k.go fun T t A q => XS.ineg (g := mkF m pc ls (.int x :: st)) A C.1 rfl (hb C.2.1 hd) rfl q
theorem r_lneg {x z : Int64} (C : Cx p c meth bytes maxL ret nm) (hd : decode bytes pc = .ok (.lneg, 1)) (hp : pc + 1 = pc') (hz : -x = z) (k : Run p l e R s m args below meth c Z own V n0 G h cells slots pc' ls (.long z :: st)) : Run p l e R s m args below meth c Z own V n0 G h cells slots pc ls (.long x :: st) := by
  subst hp hz
  exact k.go fun T t A q => XT.lneg (g := mkF m pc ls (.long x :: st)) A C.1 rfl (hb C.2.1 hd) rfl q
theorem r_i2l {x : Int32} {z : Int64} (C : Cx p c meth bytes maxL ret nm) (hd : decode bytes pc = .ok (.i2l, 1)) (hp : pc + 1 = pc') (hz : x.toInt64 = z) (k : Run p l e R s m args below meth c Z own V n0 G h cells slots pc' ls (.long z :: st)) : Run p l e R s m args below meth c Z own V n0 G h cells slots pc ls (.int x :: st) := by
  subst hp hz
  exact k.go fun T t A q => XT.i2l (g := mkF m pc ls (.int x :: st)) A C.1 rfl (hb C.2.1 hd) rfl q
theorem r_l2i {x : Int64} {z : Int32} (C : Cx p c meth bytes maxL ret nm) (hd : decode bytes pc = .ok (.l2i, 1)) (hp : pc + 1 = pc') (hz : x.toInt32 = z) (k : Run p l e R s m args below meth c Z own V n0 G h cells slots pc' ls (.int z :: st)) : Run p l e R s m args below meth c Z own V n0 G h cells slots pc ls (.long x :: st) := by
  subst hp hz
  exact k.go fun T t A q => XT.l2i (g := mkF m pc ls (.long x :: st)) A C.1 rfl (hb C.2.1 hd) rfl q
theorem r_i2b {x : Int32} {z : Int32} (C : Cx p c meth bytes maxL ret nm) (hd : decode bytes pc = .ok (.i2b, 1)) (hp : pc + 1 = pc') (hz : x.toInt8.toInt32 = z) (k : Run p l e R s m args below meth c Z own V n0 G h cells slots pc' ls (.int z :: st)) : Run p l e R s m args below meth c Z own V n0 G h cells slots pc ls (.int x :: st) := by
  subst hp hz
  exact k.go fun T t A q => XT.i2b (g := mkF m pc ls (.int x :: st)) A C.1 rfl (hb C.2.1 hd) rfl q
theorem r_i2c {x : Int32} {z : Int32} (C : Cx p c meth bytes maxL ret nm) (hd : decode bytes pc = .ok (.i2c, 1)) (hp : pc + 1 = pc') (hz : x.toUInt32.toUInt16.toUInt32.toInt32 = z) (k : Run p l e R s m args below meth c Z own V n0 G h cells slots pc' ls (.int z :: st)) : Run p l e R s m args below meth c Z own V n0 G h cells slots pc ls (.int x :: st) := by
  subst hp hz
  exact k.go fun T t A q => XT.i2c (g := mkF m pc ls (.int x :: st)) A C.1 rfl (hb C.2.1 hd) rfl q
theorem r_i2s {x : Int32} {z : Int32} (C : Cx p c meth bytes maxL ret nm) (hd : decode bytes pc = .ok (.i2s, 1)) (hp : pc + 1 = pc') (hz : x.toInt16.toInt32 = z) (k : Run p l e R s m args below meth c Z own V n0 G h cells slots pc' ls (.int z :: st)) : Run p l e R s m args below meth c Z own V n0 G h cells slots pc ls (.int x :: st) := by
  subst hp hz
  exact k.go fun T t A q => XT.i2s (g := mkF m pc ls (.int x :: st)) A C.1 rfl (hb C.2.1 hd) rfl q
theorem r_iconst {i : Int} {z : Int32} (C : Cx p c meth bytes maxL ret nm) (hd : decode bytes pc = .ok (.iconst i, 1)) (hp : pc + 1 = pc') (hz : Int32.ofInt i = z) (k : Run p l e R s m args below meth c Z own V n0 G h cells slots pc' ls (.int z :: st)) : Run p l e R s m args below meth c Z own V n0 G h cells slots pc ls st := by
  subst hp hz
  exact k.go fun T t A q => XS.iconst (g := mkF m pc ls st) A C.1 rfl (hb C.2.1 hd) q
theorem r_bipush {i : Int} {z : Int32} (C : Cx p c meth bytes maxL ret nm) (hd : decode bytes pc = .ok (.bipush i, 2)) (hp : pc + 2 = pc') (hz : (Int8.ofInt i).toInt32 = z) (k : Run p l e R s m args below meth c Z own V n0 G h cells slots pc' ls (.int z :: st)) : Run p l e R s m args below meth c Z own V n0 G h cells slots pc ls st := by
  subst hp hz
  exact k.go fun T t A q => XS.bipush (g := mkF m pc ls st) A C.1 rfl (hb C.2.1 hd) q
theorem r_sipush {i : Int} {z : Int32} (C : Cx p c meth bytes maxL ret nm) (hd : decode bytes pc = .ok (.sipush i, 3)) (hp : pc + 3 = pc') (hz : (Int16.ofInt i).toInt32 = z) (k : Run p l e R s m args below meth c Z own V n0 G h cells slots pc' ls (.int z :: st)) : Run p l e R s m args below meth c Z own V n0 G h cells slots pc ls st := by
  subst hp hz
  exact k.go fun T t A q => XS.sipush (g := mkF m pc ls st) A C.1 rfl (hb C.2.1 hd) q
theorem r_lconst {i : Fin 2} {z : Int64} (C : Cx p c meth bytes maxL ret nm) (hd : decode bytes pc = .ok (.lconst i, 1)) (hp : pc + 1 = pc') (hz : Int64.ofNat i = z) (k : Run p l e R s m args below meth c Z own V n0 G h cells slots pc' ls (.long z :: st)) : Run p l e R s m args below meth c Z own V n0 G h cells slots pc ls st := by
  subst hp hz
  exact k.go fun T t A q => XT.lconst (g := mkF m pc ls st) A C.1 rfl (hb C.2.1 hd) q
theorem r_aconst_null  (C : Cx p c meth bytes maxL ret nm) (hd : decode bytes pc = .ok (.aconst_null, 1)) (hp : pc + 1 = pc')  (k : Run p l e R s m args below meth c Z own V n0 G h cells slots pc' ls (.null :: st)) : Run p l e R s m args below meth c Z own V n0 G h cells slots pc ls st := by
  subst hp
  exact k.go fun T t A q => XS.aconstNull (g := mkF m pc ls st) A C.1 rfl (hb C.2.1 hd) q
theorem r_iload_n {i : Fin 4} {x : Int32} (C : Cx p c meth bytes maxL ret nm) (hd : decode bytes pc = .ok (.iload_n i, 1)) (hp : pc + 1 = pc') (hl : ls[i.val]? = some (.val (.int x))) (k : Run p l e R s m args below meth c Z own V n0 G h cells slots pc' ls (.int x :: st)) : Run p l e R s m args below meth c Z own V n0 G h cells slots pc ls st := by
  subst hp
  exact k.go fun T t A q => XS.iloadN (g := mkF m pc ls st) A C.1 rfl (hb C.2.1 hd) hl q
theorem r_iload {i : Nat} {x : Int32} (C : Cx p c meth bytes maxL ret nm) (hd : decode bytes pc = .ok (.iload i, 2)) (hp : pc + 2 = pc') (hl : ls[i]? = some (.val (.int x))) (k : Run p l e R s m args below meth c Z own V n0 G h cells slots pc' ls (.int x :: st)) : Run p l e R s m args below meth c Z own V n0 G h cells slots pc ls st := by
  subst hp
  exact k.go fun T t A q => XS.iload (g := mkF m pc ls st) A C.1 rfl (hb C.2.1 hd) hl q
theorem r_istore_n {i : Fin 4} {x : Int32} (C : Cx p c meth bytes maxL ret nm) (hd : decode bytes pc = .ok (.istore_n i, 1)) (hp : pc + 1 = pc') (hl : storeLocals ls i.val (.int x) = some ls') (k : Run p l e R s m args below meth c Z own V n0 G h cells slots pc' ls' st) : Run p l e R s m args below meth c Z own V n0 G h cells slots pc ls (.int x :: st) := by
  subst hp
  exact k.go fun T t A q => XS.istoreN (g := mkF m pc ls (.int x :: st)) A C.1 rfl (hb C.2.1 hd) rfl hl q
theorem r_istore {i : Nat} {x : Int32} (C : Cx p c meth bytes maxL ret nm) (hd : decode bytes pc = .ok (.istore i, 2)) (hp : pc + 2 = pc') (hl : storeLocals ls i (.int x) = some ls') (k : Run p l e R s m args below meth c Z own V n0 G h cells slots pc' ls' st) : Run p l e R s m args below meth c Z own V n0 G h cells slots pc ls (.int x :: st) := by
  subst hp
  exact k.go fun T t A q => XS.istore (g := mkF m pc ls (.int x :: st)) A C.1 rfl (hb C.2.1 hd) rfl hl q
theorem r_lload_n {i : Fin 4} {x : Int64} (C : Cx p c meth bytes maxL ret nm) (hd : decode bytes pc = .ok (.lload_n i, 1)) (hp : pc + 1 = pc') (hl : ls[i.val]? = some (.val (.long x))) (k : Run p l e R s m args below meth c Z own V n0 G h cells slots pc' ls (.long x :: st)) : Run p l e R s m args below meth c Z own V n0 G h cells slots pc ls st := by
  subst hp
  exact k.go fun T t A q => XT.lloadN (g := mkF m pc ls st) A C.1 rfl (hb C.2.1 hd) hl q
theorem r_lload {i : Nat} {x : Int64} (C : Cx p c meth bytes maxL ret nm) (hd : decode bytes pc = .ok (.lload i, 2)) (hp : pc + 2 = pc') (hl : ls[i]? = some (.val (.long x))) (k : Run p l e R s m args below meth c Z own V n0 G h cells slots pc' ls (.long x :: st)) : Run p l e R s m args below meth c Z own V n0 G h cells slots pc ls st := by
  subst hp
  exact k.go fun T t A q => XT.lload (g := mkF m pc ls st) A C.1 rfl (hb C.2.1 hd) hl q
theorem r_lstore_n {i : Fin 4} {x : Int64} (C : Cx p c meth bytes maxL ret nm) (hd : decode bytes pc = .ok (.lstore_n i, 1)) (hp : pc + 1 = pc') (hl : storeLocals ls i.val (.long x) = some ls') (k : Run p l e R s m args below meth c Z own V n0 G h cells slots pc' ls' st) : Run p l e R s m args below meth c Z own V n0 G h cells slots pc ls (.long x :: st) := by
  subst hp
  exact k.go fun T t A q => XT.lstoreN (g := mkF m pc ls (.long x :: st)) A C.1 rfl (hb C.2.1 hd) rfl hl q
theorem r_lstore {i : Nat} {x : Int64} (C : Cx p c meth bytes maxL ret nm) (hd : decode bytes pc = .ok (.lstore i, 2)) (hp : pc + 2 = pc') (hl : storeLocals ls i (.long x) = some ls') (k : Run p l e R s m args below meth c Z own V n0 G h cells slots pc' ls' st) : Run p l e R s m args below meth c Z own V n0 G h cells slots pc ls (.long x :: st) := by
  subst hp
  exact k.go fun T t A q => XT.lstore (g := mkF m pc ls (.long x :: st)) A C.1 rfl (hb C.2.1 hd) rfl hl q
theorem r_aload_n {i : Fin 4} {x : Value} (C : Cx p c meth bytes maxL ret nm) (hd : decode bytes pc = .ok (.aload_n i, 1)) (hp : pc + 1 = pc') (hl : ls[i.val]? = some (.val x)) (hv : x.isRef = true) (k : Run p l e R s m args below meth c Z own V n0 G h cells slots pc' ls (x :: st)) : Run p l e R s m args below meth c Z own V n0 G h cells slots pc ls st := by
  subst hp
  exact k.go fun T t A q => XS.aloadN (g := mkF m pc ls st) A C.1 rfl (hb C.2.1 hd) hl hv q
theorem r_aload {i : Nat} {x : Value} (C : Cx p c meth bytes maxL ret nm) (hd : decode bytes pc = .ok (.aload i, 2)) (hp : pc + 2 = pc') (hl : ls[i]? = some (.val x)) (hv : x.isRef = true) (k : Run p l e R s m args below meth c Z own V n0 G h cells slots pc' ls (x :: st)) : Run p l e R s m args below meth c Z own V n0 G h cells slots pc ls st := by
  subst hp
  exact k.go fun T t A q => XS.aload (g := mkF m pc ls st) A C.1 rfl (hb C.2.1 hd) hl hv q
theorem r_astore_n {i : Fin 4} {x : Value} (C : Cx p c meth bytes maxL ret nm) (hd : decode bytes pc = .ok (.astore_n i, 1)) (hp : pc + 1 = pc') (hv : x.isRef = true) (hl : storeLocals ls i.val x = some ls') (k : Run p l e R s m args below meth c Z own V n0 G h cells slots pc' ls' st) : Run p l e R s m args below meth c Z own V n0 G h cells slots pc ls (x :: st) := by
  subst hp
  exact k.go fun T t A q => XS.astoreN (g := mkF m pc ls (x :: st)) A C.1 rfl (hb C.2.1 hd) rfl hv hl q
theorem r_astore {i : Nat} {x : Value} (C : Cx p c meth bytes maxL ret nm) (hd : decode bytes pc = .ok (.astore i, 2)) (hp : pc + 2 = pc') (hv : x.isRef = true) (hl : storeLocals ls i x = some ls') (k : Run p l e R s m args below meth c Z own V n0 G h cells slots pc' ls' st) : Run p l e R s m args below meth c Z own V n0 G h cells slots pc ls (x :: st) := by
  subst hp
  exact k.go fun T t A q => XS.astore (g := mkF m pc ls (x :: st)) A C.1 rfl (hb C.2.1 hd) rfl hv hl q
theorem r_iinc {i : Nat} {cst : Int} {x z : Int32} (C : Cx p c meth bytes maxL ret nm) (hd : decode bytes pc = .ok (.iinc i cst, 3)) (hp : pc + 3 = pc') (hl : ls[i]? = some (.val (.int x))) (hz : x + Int32.ofInt cst = z) (hl' : storeLocals ls i (.int z) = some ls') (k : Run p l e R s m args below meth c Z own V n0 G h cells slots pc' ls' st) : Run p l e R s m args below meth c Z own V n0 G h cells slots pc ls st := by
  subst hp hz
  exact k.go fun T t A q => XS.iinc (g := mkF m pc ls st) A C.1 rfl (hb C.2.1 hd) hl hl' q
theorem r_pop {x : Value} (C : Cx p c meth bytes maxL ret nm) (hd : decode bytes pc = .ok (.pop, 1)) (hp : pc + 1 = pc') (hc : x.category = 1) (k : Run p l e R s m args below meth c Z own V n0 G h cells slots pc' ls st) : Run p l e R s m args below meth c Z own V n0 G h cells slots pc ls (x :: st) := by
  subst hp
  exact k.go fun T t A q => XT.pop (g := mkF m pc ls (x :: st)) A C.1 rfl (hb C.2.1 hd) rfl hc q
theorem r_dup {x : Value} (C : Cx p c meth bytes maxL ret nm) (hd : decode bytes pc = .ok (.dup, 1)) (hp : pc + 1 = pc') (hc : x.category = 1) (k : Run p l e R s m args below meth c Z own V n0 G h cells slots pc' ls (x :: x :: st)) : Run p l e R s m args below meth c Z own V n0 G h cells slots pc ls (x :: st) := by
  subst hp
  exact k.go fun T t A q => XS.dup (g := mkF m pc ls (x :: st)) A C.1 rfl (hb C.2.1 hd) rfl hc q
theorem r_dup_x1 {x y : Value} (C : Cx p c meth bytes maxL ret nm) (hd : decode bytes pc = .ok (.dup_x1, 1)) (hp : pc + 1 = pc') (hc : x.category = 1) (hc' : y.category = 1) (k : Run p l e R s m args below meth c Z own V n0 G h cells slots pc' ls (x :: y :: x :: st)) : Run p l e R s m args below meth c Z own V n0 G h cells slots pc ls (x :: y :: st) := by
  subst hp
  exact k.go fun T t A q => XT.dupX1 (g := mkF m pc ls (x :: y :: st)) A C.1 rfl (hb C.2.1 hd) rfl hc hc' q
theorem r_dup2 {x y : Value} (C : Cx p c meth bytes maxL ret nm) (hd : decode bytes pc = .ok (.dup2, 1)) (hp : pc + 1 = pc') (hc : x.category = 1) (hc' : y.category = 1) (k : Run p l e R s m args below meth c Z own V n0 G h cells slots pc' ls (x :: y :: x :: y :: st)) : Run p l e R s m args below meth c Z own V n0 G h cells slots pc ls (x :: y :: st) := by
  subst hp
  exact k.go fun T t A q => XT.dup2 (g := mkF m pc ls (x :: y :: st)) A C.1 rfl (hb C.2.1 hd) rfl hc hc' q
theorem r_dup2L {x : Int64} (C : Cx p c meth bytes maxL ret nm) (hd : decode bytes pc = .ok (.dup2, 1)) (hp : pc + 1 = pc')  (k : Run p l e R s m args below meth c Z own V n0 G h cells slots pc' ls (.long x :: .long x :: st)) : Run p l e R s m args below meth c Z own V n0 G h cells slots pc ls (.long x :: st) := by
  subst hp
  exact k.go fun T t A q => XT.dup2L (g := mkF m pc ls (.long x :: st)) A C.1 rfl (hb C.2.1 hd) rfl q
theorem toN {a : Nat} {o : Int} {b : Nat} (h : (a : Int) + o = (b : Int)) : 0 ≤ (a : Int) + o ∧ ((a : Int) + o).toNat = b := by omega
theorem r_goto {o : Int} (C : Cx p c meth bytes maxL ret nm) (hd : decode bytes pc = .ok (.goto o, 3)) (hp : (pc : Int) + o = (pc' : Int)) (k : Run p l e R s m args below meth c Z own V n0 G h cells slots pc' ls st) : Run p l e R s m args below meth c Z own V n0 G h cells slots pc ls st :=
  k.go fun T t A q => XS.goto (g := mkF m pc ls st) A C.1 rfl (pc0 := pc) (pc' := pc') rfl (hb C.2.1 hd) (toN hp).1 (toN hp).2 q
theorem r_icmp {x y : Int32} {cd : ClassFile.Cond} {o : Int} {pcT pcF : Nat} (C : Cx p c meth bytes maxL ret nm) (hd : decode bytes pc = .ok (.if_icmp cd o, 3)) (hT : (pc : Int) + o = (pcT : Int)) (hF : pc + 3 = pcF) (kT : if_icmp.holds cd x y = true → Run p l e R s m args below meth c Z own V n0 G h cells slots pcT ls st) (kF : if_icmp.holds cd x y = false → Run p l e R s m args below meth c Z own V n0 G h cells slots pcF ls st) : Run p l e R s m args below meth c Z own V n0 G h cells slots pc ls (.int y :: .int x :: st) := by
  subst hF
  cases hc : if_icmp.holds cd x y
  · exact (kF hc).go fun T t A q => XS.icmpNo (g := mkF m pc ls (.int y :: .int x :: st)) A C.1 rfl (hb C.2.1 hd) rfl hc q
  · exact (kT hc).go fun T t A q => XS.icmpYes (g := mkF m pc ls (.int y :: .int x :: st)) A C.1 rfl (pc0 := pc) (pc' := pcT) rfl (hb C.2.1 hd) rfl hc (toN hT).1 (toN hT).2 q
theorem r_if {x : Int32} {cd : ClassFile.Cond} {o : Int} {pcT pcF : Nat} (C : Cx p c meth bytes maxL ret nm) (hd : decode bytes pc = .ok (.ifCond cd o, 3)) (hT : (pc : Int) + o = (pcT : Int)) (hF : pc + 3 = pcF) (kT : ifCond.holds cd x = true → Run p l e R s m args below meth c Z own V n0 G h cells slots pcT ls st) (kF : ifCond.holds cd x = false → Run p l e R s m args below meth c Z own V n0 G h cells slots pcF ls st) : Run p l e R s m args below meth c Z own V n0 G h cells slots pc ls (.int x :: st) := by
  subst hF
  cases hc : ifCond.holds cd x
  · exact (kF hc).go fun T t A q => XS.ifNo (g := mkF m pc ls (.int x :: st)) A C.1 rfl (hb C.2.1 hd) rfl hc q
  · exact (kT hc).go fun T t A q => XS.ifYes (g := mkF m pc ls (.int x :: st)) A C.1 rfl (pc0 := pc) (pc' := pcT) rfl (hb C.2.1 hd) rfl hc (toN hT).1 (toN hT).2 q
theorem tf {P : Prop} {b : Bool} (h1 : P → b = true) (h2 : ¬ P → b = false) : (b = true → P) ∧ (b = false → ¬ P) := ⟨fun h => Classical.byContradiction fun q => (by rw [h2 q] at h; cases h), fun h q => (by rw [h1 q] at h; cases h)⟩
theorem lt32 {x y : Int32} : x < y ↔ x.toInt < y.toInt := Int32.lt_iff_toInt_lt
theorem nlt32 {x y : Int32} : ¬ x < y ↔ y.toInt ≤ x.toInt := by rw [lt32]; omega
theorem lt64 {x y : Int64} : x < y ↔ x.toInt < y.toInt := Int64.lt_iff_toInt_lt
theorem nlt64 {x y : Int64} : ¬ x < y ↔ y.toInt ≤ x.toInt := by rw [lt64]; omega
theorem r_icmplt {x y : Int32} {o : Int} {pcT pcF : Nat} (C : Cx p c meth bytes maxL ret nm) (hd : decode bytes pc = .ok (.if_icmp .lt o, 3)) (hT : (pc : Int) + o = (pcT : Int)) (hF : pc + 3 = pcF) (kT : x.toInt < y.toInt → Run p l e R s m args below meth c Z own V n0 G h cells slots pcT ls st) (kF : y.toInt ≤ x.toInt → Run p l e R s m args below meth c Z own V n0 G h cells slots pcF ls st) : Run p l e R s m args below meth c Z own V n0 G h cells slots pc ls (.int y :: .int x :: st) :=
  r_icmp C hd hT hF (fun hc => kT (lt32.mp ((tf (P := x < y) XT.ii_lt_t XT.ii_lt_f).1 hc))) (fun hc => kF (nlt32.mp ((tf (P := x < y) XT.ii_lt_t XT.ii_lt_f).2 hc)))
theorem r_iflt {x : Int32} {o : Int} {pcT pcF : Nat} (C : Cx p c meth bytes maxL ret nm) (hd : decode bytes pc = .ok (.ifCond .lt o, 3)) (hT : (pc : Int) + o = (pcT : Int)) (hF : pc + 3 = pcF) (kT : x.toInt < 0 → Run p l e R s m args below meth c Z own V n0 G h cells slots pcT ls st) (kF : 0 ≤ x.toInt → Run p l e R s m args below meth c Z own V n0 G h cells slots pcF ls st) : Run p l e R s m args below meth c Z own V n0 G h cells slots pc ls (.int x :: st) :=
  r_if C hd hT hF (fun hc => kT (lt32.mp ((tf (P := x < (0 : Int32)) XT.i0_lt_t XT.i0_lt_f).1 hc))) (fun hc => kF (nlt32.mp ((tf (P := x < (0 : Int32)) XT.i0_lt_t XT.i0_lt_f).2 hc)))
theorem r_lcmplt {x y : Int64} {o : Int} {pcT pcF : Nat} (C : Cx p c meth bytes maxL ret nm) (hd0 : decode bytes pc = .ok (.lcmp, 1)) (hp : pc + 1 = pc') (hd : decode bytes pc' = .ok (.ifCond .lt o, 3)) (hT : (pc' : Int) + o = (pcT : Int)) (hF : pc' + 3 = pcF) (kT : x.toInt < y.toInt → Run p l e R s m args below meth c Z own V n0 G h cells slots pcT ls st) (kF : y.toInt ≤ x.toInt → Run p l e R s m args below meth c Z own V n0 G h cells slots pcF ls st) : Run p l e R s m args below meth c Z own V n0 G h cells slots pc ls (.long y :: .long x :: st) := by
  subst hp
  exact (r_if (x := XT.cmpL x y) C hd hT hF (fun hc => kT (lt64.mp ((tf (P := x < y) XT.ll_lt_t XT.ll_lt_f).1 hc))) (fun hc => kF (nlt64.mp ((tf (P := x < y) XT.ll_lt_t XT.ll_lt_f).2 hc)))).go fun T t A q => XT.lcmp (g := mkF m pc ls (.long y :: .long x :: st)) A C.1 rfl (hb C.2.1 hd0) rfl q
theorem r_icmpge {x y : Int32} {o : Int} {pcT pcF : Nat} (C : Cx p c meth bytes maxL ret nm) (hd : decode bytes pc = .ok (.if_icmp .ge o, 3)) (hT : (pc : Int) + o = (pcT : Int)) (hF : pc + 3 = pcF) (kT : y.toInt ≤ x.toInt → Run p l e R s m args below meth c Z own V n0 G h cells slots pcT ls st) (kF : x.toInt < y.toInt → Run p l e R s m args below meth c Z own V n0 G h cells slots pcF ls st) : Run p l e R s m args below meth c Z own V n0 G h cells slots pc ls (.int y :: .int x :: st) :=
  r_icmp C hd hT hF (fun hc => kT (nlt32.mp ((tf (P := ¬ x < y) XT.ii_ge_t (fun q => XT.ii_ge_f (Classical.not_not.mp q))).1 hc))) (fun hc => kF (lt32.mp (Classical.not_not.mp ((tf (P := ¬ x < y) XT.ii_ge_t (fun q => XT.ii_ge_f (Classical.not_not.mp q))).2 hc))))
theorem r_ifge {x : Int32} {o : Int} {pcT pcF : Nat} (C : Cx p c meth bytes maxL ret nm) (hd : decode bytes pc = .ok (.ifCond .ge o, 3)) (hT : (pc : Int) + o = (pcT : Int)) (hF : pc + 3 = pcF) (kT : 0 ≤ x.toInt → Run p l e R s m args below meth c Z own V n0 G h cells slots pcT ls st) (kF : x.toInt < 0 → Run p l e R s m args below meth c Z own V n0 G h cells slots pcF ls st) : Run p l e R s m args below meth c Z own V n0 G h cells slots pc ls (.int x :: st) :=
  r_if C hd hT hF (fun hc => kT (nlt32.mp ((tf (P := ¬ x < (0 : Int32)) XT.i0_ge_t (fun q => XT.i0_ge_f (Classical.not_not.mp q))).1 hc))) (fun hc => kF (lt32.mp (Classical.not_not.mp ((tf (P := ¬ x < (0 : Int32)) XT.i0_ge_t (fun q => XT.i0_ge_f (Classical.not_not.mp q))).2 hc))))
theorem r_lcmpge {x y : Int64} {o : Int} {pcT pcF : Nat} (C : Cx p c meth bytes maxL ret nm) (hd0 : decode bytes pc = .ok (.lcmp, 1)) (hp : pc + 1 = pc') (hd : decode bytes pc' = .ok (.ifCond .ge o, 3)) (hT : (pc' : Int) + o = (pcT : Int)) (hF : pc' + 3 = pcF) (kT : y.toInt ≤ x.toInt → Run p l e R s m args below meth c Z own V n0 G h cells slots pcT ls st) (kF : x.toInt < y.toInt → Run p l e R s m args below meth c Z own V n0 G h cells slots pcF ls st) : Run p l e R s m args below meth c Z own V n0 G h cells slots pc ls (.long y :: .long x :: st) := by
  subst hp
  exact (r_if (x := XT.cmpL x y) C hd hT hF (fun hc => kT (nlt64.mp ((tf (P := ¬ x < y) XT.ll_ge_t (fun q => XT.ll_ge_f (Classical.not_not.mp q))).1 hc))) (fun hc => kF (lt64.mp (Classical.not_not.mp ((tf (P := ¬ x < y) XT.ll_ge_t (fun q => XT.ll_ge_f (Classical.not_not.mp q))).2 hc))))).go fun T t A q => XT.lcmp (g := mkF m pc ls (.long y :: .long x :: st)) A C.1 rfl (hb C.2.1 hd0) rfl q
theorem r_icmpgt {x y : Int32} {o : Int} {pcT pcF : Nat} (C : Cx p c meth bytes maxL ret nm) (hd : decode bytes pc = .ok (.if_icmp .gt o, 3)) (hT : (pc : Int) + o = (pcT : Int)) (hF : pc + 3 = pcF) (kT : y.toInt < x.toInt → Run p l e R s m args below meth c Z own V n0 G h cells slots pcT ls st) (kF : x.toInt ≤ y.toInt → Run p l e R s m args below meth c Z own V n0 G h cells slots pcF ls st) : Run p l e R s m args below meth c Z own V n0 G h cells slots pc ls (.int y :: .int x :: st) :=
  r_icmp C hd hT hF (fun hc => kT (lt32.mp ((tf (P := y < x) XT.ii_gt_t XT.ii_gt_f).1 hc))) (fun hc => kF (nlt32.mp ((tf (P := y < x) XT.ii_gt_t XT.ii_gt_f).2 hc)))
theorem r_ifgt {x : Int32} {o : Int} {pcT pcF : Nat} (C : Cx p c meth bytes maxL ret nm) (hd : decode bytes pc = .ok (.ifCond .gt o, 3)) (hT : (pc : Int) + o = (pcT : Int)) (hF : pc + 3 = pcF) (kT : 0 < x.toInt → Run p l e R s m args below meth c Z own V n0 G h cells slots pcT ls st) (kF : x.toInt ≤ 0 → Run p l e R s m args below meth c Z own V n0 G h cells slots pcF ls st) : Run p l e R s m args below meth c Z own V n0 G h cells slots pc ls (.int x :: st) :=
  r_if C hd hT hF (fun hc => kT (lt32.mp ((tf (P := (0 : Int32) < x) XT.i0_gt_t XT.i0_gt_f).1 hc))) (fun hc => kF (nlt32.mp ((tf (P := (0 : Int32) < x) XT.i0_gt_t XT.i0_gt_f).2 hc)))
theorem r_lcmpgt {x y : Int64} {o : Int} {pcT pcF : Nat} (C : Cx p c meth bytes maxL ret nm) (hd0 : decode bytes pc = .ok (.lcmp, 1)) (hp : pc + 1 = pc') (hd : decode bytes pc' = .ok (.ifCond .gt o, 3)) (hT : (pc' : Int) + o = (pcT : Int)) (hF : pc' + 3 = pcF) (kT : y.toInt < x.toInt → Run p l e R s m args below meth c Z own V n0 G h cells slots pcT ls st) (kF : x.toInt ≤ y.toInt → Run p l e R s m args below meth c Z own V n0 G h cells slots pcF ls st) : Run p l e R s m args below meth c Z own V n0 G h cells slots pc ls (.long y :: .long x :: st) := by
  subst hp
  exact (r_if (x := XT.cmpL x y) C hd hT hF (fun hc => kT (lt64.mp ((tf (P := y < x) XT.ll_gt_t XT.ll_gt_f).1 hc))) (fun hc => kF (nlt64.mp ((tf (P := y < x) XT.ll_gt_t XT.ll_gt_f).2 hc)))).go fun T t A q => XT.lcmp (g := mkF m pc ls (.long y :: .long x :: st)) A C.1 rfl (hb C.2.1 hd0) rfl q
theorem r_icmple {x y : Int32} {o : Int} {pcT pcF : Nat} (C : Cx p c meth bytes maxL ret nm) (hd : decode bytes pc = .ok (.if_icmp .le o, 3)) (hT : (pc : Int) + o = (pcT : Int)) (hF : pc + 3 = pcF) (kT : x.toInt ≤ y.toInt → Run p l e R s m args below meth c Z own V n0 G h cells slots pcT ls st) (kF : y.toInt < x.toInt → Run p l e R s m args below meth c Z own V n0 G h cells slots pcF ls st) : Run p l e R s m args below meth c Z own V n0 G h cells slots pc ls (.int y :: .int x :: st) :=
  r_icmp C hd hT hF (fun hc => kT (nlt32.mp ((tf (P := ¬ y < x) XT.ii_le_t (fun q => XT.ii_le_f (Classical.not_not.mp q))).1 hc))) (fun hc => kF (lt32.mp (Classical.not_not.mp ((tf (P := ¬ y < x) XT.ii_le_t (fun q => XT.ii_le_f (Classical.not_not.mp q))).2 hc))))
theorem r_ifle {x : Int32} {o : Int} {pcT pcF : Nat} (C : Cx p c meth bytes maxL ret nm) (hd : decode bytes pc = .ok (.ifCond .le o, 3)) (hT : (pc : Int) + o = (pcT : Int)) (hF : pc + 3 = pcF) (kT : x.toInt ≤ 0 → Run p l e R s m args below meth c Z own V n0 G h cells slots pcT ls st) (kF : 0 < x.toInt → Run p l e R s m args below meth c Z own V n0 G h cells slots pcF ls st) : Run p l e R s m args below meth c Z own V n0 G h cells slots pc ls (.int x :: st) :=
  r_if C hd hT hF (fun hc => kT (nlt32.mp ((tf (P := ¬ (0 : Int32) < x) XT.i0_le_t (fun q => XT.i0_le_f (Classical.not_not.mp q))).1 hc))) (fun hc => kF (lt32.mp (Classical.not_not.mp ((tf (P := ¬ (0 : Int32) < x) XT.i0_le_t (fun q => XT.i0_le_f (Classical.not_not.mp q))).2 hc))))
theorem r_lcmple {x y : Int64} {o : Int} {pcT pcF : Nat} (C : Cx p c meth bytes maxL ret nm) (hd0 : decode bytes pc = .ok (.lcmp, 1)) (hp : pc + 1 = pc') (hd : decode bytes pc' = .ok (.ifCond .le o, 3)) (hT : (pc' : Int) + o = (pcT : Int)) (hF : pc' + 3 = pcF) (kT : x.toInt ≤ y.toInt → Run p l e R s m args below meth c Z own V n0 G h cells slots pcT ls st) (kF : y.toInt < x.toInt → Run p l e R s m args below meth c Z own V n0 G h cells slots pcF ls st) : Run p l e R s m args below meth c Z own V n0 G h cells slots pc ls (.long y :: .long x :: st) := by
  subst hp
  exact (r_if (x := XT.cmpL x y) C hd hT hF (fun hc => kT (nlt64.mp ((tf (P := ¬ y < x) XT.ll_le_t (fun q => XT.ll_le_f (Classical.not_not.mp q))).1 hc))) (fun hc => kF (lt64.mp (Classical.not_not.mp ((tf (P := ¬ y < x) XT.ll_le_t (fun q => XT.ll_le_f (Classical.not_not.mp q))).2 hc))))).go fun T t A q => XT.lcmp (g := mkF m pc ls (.long y :: .long x :: st)) A C.1 rfl (hb C.2.1 hd0) rfl q
theorem r_icmpeq {x y : Int32} {o : Int} {pcT pcF : Nat} (C : Cx p c meth bytes maxL ret nm) (hd : decode bytes pc = .ok (.if_icmp .eq o, 3)) (hT : (pc : Int) + o = (pcT : Int)) (hF : pc + 3 = pcF) (kT : x = y → Run p l e R s m args below meth c Z own V n0 G h cells slots pcT ls st) (kF : ¬ x = y → Run p l e R s m args below meth c Z own V n0 G h cells slots pcF ls st) : Run p l e R s m args below meth c Z own V n0 G h cells slots pc ls (.int y :: .int x :: st) :=
  r_icmp C hd hT hF (fun hc => kT ((tf (P := x = y) XT.ii_eq_t XT.ii_eq_f).1 hc)) (fun hc => kF ((tf (P := x = y) XT.ii_eq_t XT.ii_eq_f).2 hc))
theorem r_ifeq {x : Int32} {o : Int} {pcT pcF : Nat} (C : Cx p c meth bytes maxL ret nm) (hd : decode bytes pc = .ok (.ifCond .eq o, 3)) (hT : (pc : Int) + o = (pcT : Int)) (hF : pc + 3 = pcF) (kT : x = 0 → Run p l e R s m args below meth c Z own V n0 G h cells slots pcT ls st) (kF : ¬ x = 0 → Run p l e R s m args below meth c Z own V n0 G h cells slots pcF ls st) : Run p l e R s m args below meth c Z own V n0 G h cells slots pc ls (.int x :: st) :=
  r_if C hd hT hF (fun hc => kT ((tf (P := x = 0) XT.i0_eq_t XT.i0_eq_f).1 hc)) (fun hc => kF ((tf (P := x = 0) XT.i0_eq_t XT.i0_eq_f).2 hc))
theorem r_lcmpeq {x y : Int64} {o : Int} {pcT pcF : Nat} (C : Cx p c meth bytes maxL ret nm) (hd0 : decode bytes pc = .ok (.lcmp, 1)) (hp : pc + 1 = pc') (hd : decode bytes pc' = .ok (.ifCond .eq o, 3)) (hT : (pc' : Int) + o = (pcT : Int)) (hF : pc' + 3 = pcF) (kT : x = y → Run p l e R s m args below meth c Z own V n0 G h cells slots pcT ls st) (kF : ¬ x = y → Run p l e R s m args below meth c Z own V n0 G h cells slots pcF ls st) : Run p l e R s m args below meth c Z own V n0 G h cells slots pc ls (.long y :: .long x :: st) := by
  subst hp
  exact (r_if (x := XT.cmpL x y) C hd hT hF (fun hc => kT ((tf (P := x = y) XT.ll_eq_t XT.ll_eq_f).1 hc)) (fun hc => kF ((tf (P := x = y) XT.ll_eq_t XT.ll_eq_f).2 hc))).go fun T t A q => XT.lcmp (g := mkF m pc ls (.long y :: .long x :: st)) A C.1 rfl (hb C.2.1 hd0) rfl q
theorem r_icmpne {x y : Int32} {o : Int} {pcT pcF : Nat} (C : Cx p c meth bytes maxL ret nm) (hd : decode bytes pc = .ok (.if_icmp .ne o, 3)) (hT : (pc : Int) + o = (pcT : Int)) (hF : pc + 3 = pcF) (kT : ¬ x = y → Run p l e R s m args below meth c Z own V n0 G h cells slots pcT ls st) (kF : x = y → Run p l e R s m args below meth c Z own V n0 G h cells slots pcF ls st) : Run p l e R s m args below meth c Z own V n0 G h cells slots pc ls (.int y :: .int x :: st) :=
  r_icmp C hd hT hF (fun hc => kT ((tf (P := ¬ x = y) XT.ii_ne_t (fun q => XT.ii_ne_f (Classical.not_not.mp q))).1 hc)) (fun hc => kF (Classical.not_not.mp ((tf (P := ¬ x = y) XT.ii_ne_t (fun q => XT.ii_ne_f (Classical.not_not.mp q))).2 hc)))
theorem r_ifne {x : Int32} {o : Int} {pcT pcF : Nat} (C : Cx p c meth bytes maxL ret nm) (hd : decode bytes pc = .ok (.ifCond .ne o, 3)) (hT : (pc : Int) + o = (pcT : Int)) (hF : pc + 3 = pcF) (kT : ¬ x = 0 → Run p l e R s m args below meth c Z own V n0 G h cells slots pcT ls st) (kF : x = 0 → Run p l e R s m args below meth c Z own V n0 G h cells slots pcF ls st) : Run p l e R s m args below meth c Z own V n0 G h cells slots pc ls (.int x :: st) :=
  r_if C hd hT hF (fun hc => kT ((tf (P := ¬ x = 0) XT.i0_ne_t (fun q => XT.i0_ne_f (Classical.not_not.mp q))).1 hc)) (fun hc => kF (Classical.not_not.mp ((tf (P := ¬ x = 0) XT.i0_ne_t (fun q => XT.i0_ne_f (Classical.not_not.mp q))).2 hc)))
theorem r_lcmpne {x y : Int64} {o : Int} {pcT pcF : Nat} (C : Cx p c meth bytes maxL ret nm) (hd0 : decode bytes pc = .ok (.lcmp, 1)) (hp : pc + 1 = pc') (hd : decode bytes pc' = .ok (.ifCond .ne o, 3)) (hT : (pc' : Int) + o = (pcT : Int)) (hF : pc' + 3 = pcF) (kT : ¬ x = y → Run p l e R s m args below meth c Z own V n0 G h cells slots pcT ls st) (kF : x = y → Run p l e R s m args below meth c Z own V n0 G h cells slots pcF ls st) : Run p l e R s m args below meth c Z own V n0 G h cells slots pc ls (.long y :: .long x :: st) := by
  subst hp
  exact (r_if (x := XT.cmpL x y) C hd hT hF (fun hc => kT ((tf (P := ¬ x = y) XT.ll_ne_t (fun q => XT.ll_ne_f (Classical.not_not.mp q))).1 hc)) (fun hc => kF (Classical.not_not.mp ((tf (P := ¬ x = y) XT.ll_ne_t (fun q => XT.ll_ne_f (Classical.not_not.mp q))).2 hc)))).go fun T t A q => XT.lcmp (g := mkF m pc ls (.long y :: .long x :: st)) A C.1 rfl (hb C.2.1 hd0) rfl q
theorem r_ifnonnullR {a : Addr} {o : Int} (C : Cx p c meth bytes maxL ret nm) (hd : decode bytes pc = .ok (.ifnonnull o, 3)) (hp : (pc : Int) + o = (pc' : Int)) (k : Run p l e R s m args below meth c Z own V n0 G h cells slots pc' ls st) : Run p l e R s m args below meth c Z own V n0 G h cells slots pc ls (.ref a :: st) :=
  k.go fun T t A q => XT.ifnonnullYes (g := mkF m pc ls (.ref a :: st)) A C.1 rfl (pc0 := pc) (pc' := pc') rfl (hb C.2.1 hd) rfl (toN hp).1 (toN hp).2 q
theorem r_ifnullR {a : Addr} {o : Int} (C : Cx p c meth bytes maxL ret nm) (hd : decode bytes pc = .ok (.ifnull o, 3)) (hp : pc + 3 = pc') (k : Run p l e R s m args below meth c Z own V n0 G h cells slots pc' ls st) : Run p l e R s m args below meth c Z own V n0 G h cells slots pc ls (.ref a :: st) := by
  subst hp
  exact k.go fun T t A q => XS.ifnullNo (g := mkF m pc ls (.ref a :: st)) A C.1 rfl (hb C.2.1 hd) rfl q
theorem r_ldc {i : Nat} {x : Int32} (C : Cx p c meth bytes maxL ret nm) (w : (Jvm.Cond.constant own i x).before a0 Z = true) (hd : decode bytes pc = .ok (.ldc i, 2)) (hp : pc + 2 = pc') (k : Run p l e R s m args below meth c Z own V n0 G h cells slots pc' ls (.int x :: st)) : Run p l e R s m args below meth c Z own V n0 G h cells slots pc ls st := by
  subst hp
  intro vm0 k0 T L X hV hk hZ ho N eT
  obtain ⟨U, o, h1, r⟩ := k vm0 k0 T L X hV hk hZ ho N eT
  exact ⟨U, o, X.ldcI (g := mkF m pc ls st) C.1 (own := own) ho (mvT (s := s.setVm vm0) hZ w) rfl (hb C.2.1 hd) h1, r⟩
theorem r_ldc_w {i : Nat} {x : Int32} (C : Cx p c meth bytes maxL ret nm) (w : (Jvm.Cond.constant own i x).before a0 Z = true) (hd : decode bytes pc = .ok (.ldc_w i, 3)) (hp : pc + 3 = pc') (k : Run p l e R s m args below meth c Z own V n0 G h cells slots pc' ls (.int x :: st)) : Run p l e R s m args below meth c Z own V n0 G h cells slots pc ls st := by
  subst hp
  intro vm0 k0 T L X hV hk hZ ho N eT
  obtain ⟨U, o, h1, r⟩ := k vm0 k0 T L X hV hk hZ ho N eT
  exact ⟨U, o, X.ldcWI (g := mkF m pc ls st) C.1 (own := own) ho (mvT (s := s.setVm vm0) hZ w) rfl (hb C.2.1 hd) h1, r⟩
theorem r_ldc2_w {i : Nat} {x : Int64} (C : Cx p c meth bytes maxL ret nm) (w : (Jvm.Cond.constantLong own i x).before a0 Z = true) (hd : decode bytes pc = .ok (.ldc2_w i, 3)) (hp : pc + 3 = pc') (k : Run p l e R s m args below meth c Z own V n0 G h cells slots pc' ls (.long x :: st)) : Run p l e R s m args below meth c Z own V n0 G h cells slots pc ls st := by
  subst hp
  intro vm0 k0 T L X hV hk hZ ho N eT
  obtain ⟨U, o, h1, r⟩ := k vm0 k0 T L X hV hk hZ ho N eT
  exact ⟨U, o, X.ldc2J (g := mkF m pc ls st) C.1 (own := own) ho (mvT (s := s.setVm vm0) hZ w) rfl (hb C.2.1 hd) h1, r⟩
theorem retI0 {T : State} {locs : List Loc} {k n : Nat} (X : Stand p l e R s m args below meth c T locs k n) (hx : p.tables.exec = Jvm.exec) {pc : Nat} {Ls : Array Slot} {z : Int32} {rest : List Value} (hret : meth.sig.returnType = some .int) (hd : decode c.code pc = .ok (.ireturn, 1)) {fs : List Frame}
    (hl : ∀ (f : JFrame) (acts : List Action), f.method = m → f.locked = none → f.entered = [] → (doReturn e (T.setTop f) acts (some (.int z))).1 = T.setFrames fs) : Steps p.tables e below (T.setTop (mkF m pc Ls (.int z :: rest))) (T.setFrames fs) :=
  retOut X hx hret rfl (Or.inl ⟨rfl, Or.inl rfl, z, rfl⟩) hd hl
theorem r_ireturn {z : Int32} {P : Option Value → Heap → Prop} (C : Cx p c meth bytes maxL (some .int) nm) (hd : decode bytes pc = .ok (.ireturn, 1)) (hP : P (some (.int z)) h) (hc : cells ≤ R.cells) (hs : slots ≤ R.slots) : Run p l e R s m args below meth c Z own (plainV s) n0 (Gq s n0 R P) h cells slots pc ls (.int z :: st) := by
  intro vm0 k0 T L X hV hk hZ ho N eT
  cases (show vm0 = s.vm from hV)
  have X' : Stand p l e R s m args below meth c T L cells slots := X
  obtain ⟨fs, hr, hrun, hended, hW, hsame⟩ := X'.leave (v := (some (.int z))) (fun h => by first | rfl | (rw [C.2.2.2.1] at h; cases h)) C.2.2.2.2.1
  exact ⟨_, _, retI0 X' C.1 C.2.2.2.1 (hb C.2.1 hd) hr, hrun, hended, _, _, rfl, ⟨by show P _ T.heap; rw [eT]; exact hP, N⟩, ⟨_, rfl⟩, hW, hsame.mono hc hs⟩
theorem r_ireturnN {z : Int32} {t : FieldType} (ht : t = .boolean ∨ t = .byte ∨ t = .char ∨ t = .short) {P : Option Value → Heap → Prop} (C : Cx p c meth bytes maxL (some t) nm) (hd : decode bytes pc = .ok (.ireturn, 1)) (hP : P (some (.int (nar t z))) h) (hc : cells ≤ R.cells) (hs : slots ≤ R.slots) : Run p l e R s m args below meth c Z own (plainV s) n0 (Gq s n0 R P) h cells slots pc ls (.int z :: st) := by
  intro vm0 k0 T L X hV hk hZ ho N eT
  cases (show vm0 = s.vm from hV)
  have X' : Stand p l e R s m args below meth c T L cells slots := X
  obtain ⟨fs, hr, hrun, hended, hW, hsame⟩ := X'.leave (v := (some (.int (nar t z)))) (fun h => by first | rfl | (rw [C.2.2.2.1] at h; cases h)) C.2.2.2.2.1
  exact ⟨_, _, retN X' C.1 C.2.2.2.1 ht (hb C.2.1 hd) hr, hrun, hended, _, _, rfl, ⟨by show P _ T.heap; rw [eT]; exact hP, N⟩, ⟨_, rfl⟩, hW, hsame.mono hc hs⟩
theorem r_lreturn {z : Int64} {P : Option Value → Heap → Prop} (C : Cx p c meth bytes maxL (some .long) nm) (hd : decode bytes pc = .ok (.lreturn, 1)) (hP : P (some (.long z)) h) (hc : cells ≤ R.cells) (hs : slots ≤ R.slots) : Run p l e R s m args below meth c Z own (plainV s) n0 (Gq s n0 R P) h cells slots pc ls (.long z :: st) := by
  intro vm0 k0 T L X hV hk hZ ho N eT
  cases (show vm0 = s.vm from hV)
  have X' : Stand p l e R s m args below meth c T L cells slots := X
  obtain ⟨fs, hr, hrun, hended, hW, hsame⟩ := X'.leave (v := (some (.long z))) (fun h => by first | rfl | (rw [C.2.2.2.1] at h; cases h)) C.2.2.2.2.1
  exact ⟨_, _, retOut X' C.1 C.2.2.2.1 rfl (Or.inr (Or.inl ⟨rfl, rfl, z, rfl⟩)) (hb C.2.1 hd) hr, hrun, hended, _, _, rfl, ⟨by show P _ T.heap; rw [eT]; exact hP, N⟩, ⟨_, rfl⟩, hW, hsame.mono hc hs⟩
theorem r_areturn {a : Addr} {t : FieldType} (ht : t.isReference = true) (hn : narrow t (.ref a) = .ref a) {P : Option Value → Heap → Prop} (C : Cx p c meth bytes maxL (some t) nm) (hd : decode bytes pc = .ok (.areturn, 1)) (hP : P (some (.ref a)) h) (hc : cells ≤ R.cells) (hs : slots ≤ R.slots) : Run p l e R s m args below meth c Z own (plainV s) n0 (Gq s n0 R P) h cells slots pc ls (.ref a :: st) := by
  intro vm0 k0 T L X hV hk hZ ho N eT
  cases (show vm0 = s.vm from hV)
  have X' : Stand p l e R s m args below meth c T L cells slots := X
  obtain ⟨fs, hr, hrun, hended, hW, hsame⟩ := X'.leave (v := (some (.ref a))) (fun h => by first | rfl | (rw [C.2.2.2.1] at h; cases h)) C.2.2.2.2.1
  exact ⟨_, _, retOut X' C.1 C.2.2.2.1 hn (Or.inr (Or.inr (Or.inr (Or.inr ⟨rfl, ht, rfl⟩)))) (hb C.2.1 hd) hr, hrun, hended, _, _, rfl, ⟨by show P _ T.heap; rw [eT]; exact hP, N⟩, ⟨_, rfl⟩, hW, hsame.mono hc hs⟩
theorem r_return0  {P : Option Value → Heap → Prop} (C : Cx p c meth bytes maxL none nm) (hd : decode bytes pc = .ok (.return_, 1)) (hP : P none h) (hc : cells ≤ R.cells) (hs : slots ≤ R.slots) : Run p l e R s m args below meth c Z own (plainV s) n0 (Gq s n0 R P) h cells slots pc ls [] := by
  intro vm0 k0 T L X hV hk hZ ho N eT
  cases (show vm0 = s.vm from hV)
  have X' : Stand p l e R s m args below meth c T L cells slots := X
  obtain ⟨fs, hr, hrun, hended, hW, hsame⟩ := X'.leave (v := none) (fun h => by first | rfl | (rw [C.2.2.2.1] at h; cases h)) C.2.2.2.2.1
  exact ⟨_, _, X'.returnOut C.1 C.2.2.2.1 (hb C.2.1 hd) hr, hrun, hended, _, _, rfl, ⟨by show P _ T.heap; rw [eT]; exact hP, N⟩, ⟨_, rfl⟩, hW, hsame.mono hc hs⟩
theorem r_callS {y : MethodName} {bytes' : ByteArray} {maxL' : Nat} {ret' : Option FieldType} {rm : Room} {as : List Value} {P : Option Value → Heap → Prop} {index W : Nat} {ps : List FieldType} {r0 : Option FieldType} (C : Cx p c meth bytes maxL ret nm)
    (w1 : (Jvm.Cond.methodLink own index y).before a0 Z = true) (w2 : (Jvm.Cond.static y).before a0 Z = true) (w3 : (Jvm.Cond.initialized y.cls).before a0 Z = true) (w4 : (Jvm.Cond.code y bytes' maxL' ret').before a0 Z = true)
    (hy : y.cls ≠ "java/lang/invoke/MethodHandle" ∧ y.cls ≠ "java/lang/invoke/VarHandle") (hpd : parseMethodDescriptor y.desc = some ⟨ps, r0⟩) (hlen : as.length = ps.length) (hstk : st' = as.reverse ++ st) (hd : decode bytes pc = .ok (.invokestatic index, 3)) (hp : pc + 3 = pc')
    (hsz : ls.size = maxL) (hW : (st.map fun v => v.category).sum ≤ W) (K : Con l Z y bytes' maxL' ret' rm as.toArray h n0 P) (hf : rm.frames + 1 ≤ R.frames) (hl : W + (maxL' + 11) + rm.locals ≤ R.locals) (hc : cells + rm.cells ≤ R.cells) (hs : slots + rm.slots ≤ R.slots)
    (k : ∀ v h', P v h' → Run p l e R s m args below meth c Z own V n0 G h' (cells + rm.cells) (slots + rm.slots) pc' ls (v.toList ++ st)) : Run p l e R s m args below meth c Z own V n0 G h cells slots pc ls st' := by
  subst hp hstk
  intro vm0 k0 T L X hV hk hZ ho N eT
  have hZ' : Z.Warmed39 (s.setVm vm0).vm := hZ
  obtain ⟨v, vm₁, B, hw, X', ⟨L', hQ, e1, e2, e3⟩, stp⟩ := Jvm.LawKit.callS X C.1 (y := y) (own := own) ho (mvT hZ' w1) (mvT hZ' w2) (mvT hZ' w3) (mvT hZ' w4) hy
    (backOf (W := W) (Q := fun v h' L => P v h' ∧ Fr n0 L) (K []) hZ' w4 w3 hf hl) (g := mkF m pc ls (as.reverse ++ st)) rfl (by rw [C.2.2.1]; exact hsz) (argsL := as) (rest := st) (lenOf hpd hlen) rfl (by simpa using hW) (hb C.2.1 hd) (fun _ _ => ⟨rfl, eT, hc, hs⟩)
  obtain ⟨hP, N'⟩ := hQ
  obtain ⟨U, L2, ce2, sl2⟩ := B
  dsimp only [Pt.U, Pt.locs, Pt.cells, Pt.slots] at X' e1 e2 e3 stp hP
  subst e1 e2 e3
  have hle := (stp _ (Steps.refl _)).heap_le
  have hle' : h.size ≤ U.heap.size := by rw [← eT]; exact hle
  obtain ⟨U', o, h1, r⟩ := k v _ hP vm0 k0 U _ X' hV (Nat.le_trans hk hle') hZ ho (Fr.app N N') rfl
  exact ⟨U', o, stp _ h1, r⟩
/-- a constructor (or any '<init>') -/
theorem r_callI {y : MethodName} {bytes' : ByteArray} {maxL' : Nat} {rm : Room} {a : Addr} {as : List Value} {P : Option Value → Heap → Prop} {index W : Nat} {ps : List FieldType} {r0 : Option FieldType} (C : Cx p c meth bytes maxL ret nm) (hy1 : y.name = "<init>")
    (w1 : (Jvm.Cond.methodLink own index y).before a0 Z = true) (w2 : (Jvm.Cond.instanceMethod y).before a0 Z = true) (w3 : (Jvm.Cond.initialized y.cls).before a0 Z = true) (w4 : (Jvm.Cond.code y bytes' maxL' none).before a0 Z = true)
    (hy : y.cls ≠ "java/lang/invoke/MethodHandle" ∧ y.cls ≠ "java/lang/invoke/VarHandle") (hpd : parseMethodDescriptor y.desc = some ⟨ps, r0⟩) (hlen : as.length = ps.length) (hstk : st' = as.reverse ++ .ref a :: st) (hd : decode bytes pc = .ok (.invokespecial index, 3)) (hp : pc + 3 = pc')
    (hsz : ls.size = maxL) (hW : (st.map fun v => v.category).sum ≤ W) (K : Con l Z y bytes' maxL' none rm (.ref a :: as).toArray h n0 P) (hf : rm.frames + 1 ≤ R.frames) (hl : W + (maxL' + 11) + rm.locals ≤ R.locals) (hc : cells + rm.cells ≤ R.cells) (hs : slots + rm.slots ≤ R.slots)
    (k : ∀ v h', P v h' → Run p l e R s m args below meth c Z own V n0 G h' (cells + rm.cells) (slots + rm.slots) pc' ls (v.toList ++ st)) : Run p l e R s m args below meth c Z own V n0 G h cells slots pc ls st' := by
  subst hp hstk
  intro vm0 k0 T L X hV hk hZ ho N eT
  have hZ' : Z.Warmed39 (s.setVm vm0).vm := hZ
  obtain ⟨v, vm₁, B, hw, X', ⟨L', hQ, e1, e2, e3⟩, stp⟩ := X.specialBack C.1 (y := y) hy1 (own := own) ho (mvT hZ' w1) (mvT hZ' w2) (mvT hZ' w4) hy
    (backOf (W := W) (Q := fun v h' L => P v h' ∧ Fr n0 L) (K []) hZ' w4 w3 hf hl) (g := mkF m pc ls (as.reverse ++ .ref a :: st)) rfl (by rw [C.2.2.1]; exact hsz) (Steps.refl _) (a := a) (argsL := as) (rest := st) (lenOf hpd hlen) rfl (by simpa using hW) (hb C.2.1 hd) (fun _ _ => ⟨rfl, eT, hc, hs⟩)
  obtain ⟨hP, N'⟩ := hQ
  obtain ⟨U, L2, ce2, sl2⟩ := B
  dsimp only [Pt.U, Pt.locs, Pt.cells, Pt.slots] at X' e1 e2 e3 stp hP
  subst e1 e2 e3
  have hle := stp.heap_le
  have hle' : h.size ≤ U.heap.size := by rw [← eT]; exact hle
  obtain ⟨U', o, h1, r⟩ := k v _ hP vm0 k0 U _ X' hV (Nat.le_trans hk hle') hZ ho (Fr.app N N') rfl
  exact ⟨U', o, stp.trans h1, r⟩
/-- an instance method of an object whose class is known exactly -/
theorem r_callV {y z : MethodName} {K0 K1 : String} {bytes' : ByteArray} {maxL' : Nat} {ret' : Option FieldType} {rm : Room} {a : Addr} {as : List Value} {P : Option Value → Heap → Prop} {index W : Nat} {ps : List FieldType} {r0 : Option FieldType} (C : Cx p c meth bytes maxL ret nm)
    (w1 : (Jvm.Cond.methodLink own index y).before a0 Z = true) (w2 : (Jvm.Cond.declares y).before a0 Z = true) (w5 : (Jvm.Cond.selects K1 y y).before a0 Z = true) (w6 : (Jvm.Cond.selects K0 y z).before a0 Z = true) (w7 : (Jvm.Cond.instanceMethod z).before a0 Z = true) (w3 : (Jvm.Cond.initialized z.cls).before a0 Z = true) (w4 : (Jvm.Cond.code z bytes' maxL' ret').before a0 Z = true)
    (hy : y.cls ≠ "java/lang/invoke/MethodHandle" ∧ y.cls ≠ "java/lang/invoke/VarHandle") (hpd : parseMethodDescriptor y.desc = some ⟨ps, r0⟩) (hlen : as.length = ps.length) (hstk : st' = as.reverse ++ .ref a :: st) (hd : decode bytes pc = .ok (.invokevirtual index, 3)) (hp : pc + 3 = pc')
    (hsz : ls.size = maxL) (hW : (st.map fun v => v.category).sum ≤ W) (E : Exa Z h a K0) (K : Con l Z z bytes' maxL' ret' rm (.ref a :: as).toArray h n0 P) (hf : rm.frames + 1 ≤ R.frames) (hl : W + (maxL' + 11) + rm.locals ≤ R.locals) (hc : cells + rm.cells ≤ R.cells) (hs : slots + rm.slots ≤ R.slots)
    (k : ∀ v h', P v h' → Run p l e R s m args below meth c Z own V n0 G h' (cells + rm.cells) (slots + rm.slots) pc' ls (v.toList ++ st)) : Run p l e R s m args below meth c Z own V n0 G h cells slots pc ls st' := by
  subst hp hstk
  intro vm0 k0 T L X hV hk hZ ho N eT
  have hZ' : Z.Warmed39 (s.setVm vm0).vm := hZ
  obtain ⟨cq, kq, qa, qb, qc⟩ := isOf hZ' eT E
  have nf : NotFace (s.setVm vm0) y := notFace_of_selects (args := #[]) (mvT hZ' w5)
  obtain ⟨v, vm₁, B, hw, X', ⟨L', hQ, e1, e2, e3⟩, stp⟩ := X.virtualBack C.1 (y := y) (z := z) (own := own) ho (mvT hZ' w1) (mvT hZ' w2) nf (mvT hZ' w6) (mvT hZ' w7) hy
    (backOf (W := W) (Q := fun v h' L => P v h' ∧ Fr n0 L) (K []) hZ' w4 w3 hf hl) qa qc (g := mkF m pc ls (as.reverse ++ .ref a :: st)) rfl (by rw [C.2.2.1]; exact hsz) (Steps.refl _) (argsL := as) (rest := st) (lenOf hpd hlen) rfl (by simpa using hW) (hb C.2.1 hd) (fun _ _ => ⟨rfl, eT, hc, hs⟩)
  obtain ⟨hP, N'⟩ := hQ
  obtain ⟨U, L2, ce2, sl2⟩ := B
  dsimp only [Pt.U, Pt.locs, Pt.cells, Pt.slots] at X' e1 e2 e3 stp hP
  subst e1 e2 e3
  have hle := stp.heap_le
  have hle' : h.size ≤ U.heap.size := by rw [← eT]; exact hle
  obtain ⟨U', o, h1, r⟩ := k v _ hP vm0 k0 U _ X' hV (Nat.le_trans hk hle') hZ ho (Fr.app N N') rfl
  exact ⟨U', o, stp.trans h1, r⟩
theorem r_new {K0 : String} {index n : Nat} (C : Cx p c meth bytes maxL ret nm) (w1 : (Jvm.Cond.classLink own index K0).before a0 Z = true) (w2 : (Jvm.Cond.instantiable K0 n).before a0 Z = true) (w3 : (Jvm.Cond.initialized K0).before a0 Z = true) (hd : decode bytes pc = .ok (.new index, 3)) (hp : pc + 3 = pc') (hc : cells + 1 ≤ R.cells) (hs : slots + n ≤ R.slots)
    (k : ∀ (a : Addr) h', @Eq Nat a h.size → Keep h h' [] → Exa Z h' a K0 → (∀ {O nm d : String} {ty : FieldType}, Laid Z a0 K0 O nm d → parseFieldDescriptor d = some ty → Fld Z h' a O nm d (defaultValue ty)) → Run p l e R s m args below meth c Z own V n0 G h' (cells + 1) (slots + n) pc' ls (.ref a :: st)) : Run p l e R s m args below meth c Z own V n0 G h cells slots pc ls st := by
  subst hp
  intro vm0 k0 T L X hV hk hZ ho N eT
  have hZ' : Z.Warmed39 (s.setVm vm0).vm := hZ
  obtain ⟨T2, h2, X2, e2, E2, A2, D2, -, st2⟩ := newO X C.1 hZ' (own := own) ho w1 w2 w3 eT (g := mkF m pc ls st) rfl (hb C.2.1 hd) hc hs
  obtain ⟨U, o, h1, r⟩ := k _ h2 rfl ((Keep.refl h []).ext E2) A2 D2 vm0 k0 T2 L X2 hV (Nat.le_trans hk E2.1) hZ ho N e2
  exact ⟨U, o, st2 _ h1, r⟩
theorem r_getfield {R0 O n d : String} {host : String} {index : Nat} {a : Addr} {v : Value} (C : Cx p c meth bytes maxL ret nm) (w1 : (Jvm.Cond.fieldLink own index R0 n d).before a0 Z = true ∨ (Jvm.Cond.fieldLinkNest own index R0 n d host).before a0 Z = true) (via : Via Z R0 O n d) (hd : decode bytes pc = .ok (.getfield index, 3)) (hp : pc + 3 = pc') (F : Fld Z h a O n d v)
    (k : Run p l e R s m args below meth c Z own V n0 G h cells slots pc' ls (v :: st)) : Run p l e R s m args below meth c Z own V n0 G h cells slots pc ls (.ref a :: st) := by
  subst hp
  intro vm0 k0 T L X hV hk hZ ho N eT
  have hZ' : Z.Warmed39 (s.setVm vm0).vm := hZ
  obtain ⟨T2, X2, e2, st2⟩ := getF X C.1 hZ' (own := own) ho w1 via eT F (g := mkF m pc ls (.ref a :: st)) rfl rfl (hb C.2.1 hd)
  obtain ⟨U, o, h1, r⟩ := k vm0 k0 T2 L X2 hV hk hZ ho N e2
  exact ⟨U, o, st2 _ h1, r⟩
theorem r_putfield {R0 O n d K0 : String} {host : String} {index kk : Nat} {ty : FieldType} {a : Addr} {v old : Value} (C : Cx p c meth bytes maxL ret nm) (w1 : (Jvm.Cond.fieldLink own index R0 n d).before a0 Z = true ∨ (Jvm.Cond.fieldLinkNest own index R0 n d host).before a0 Z = true) (via : Via Z R0 O n d) (hL : (Jvm.Cond.lays K0 O n d).before a0 Z = true ∨ ((Jvm.Cond.laysFinal K0 O n d).before a0 Z = true ∧ own = O ∧ nm = "<init>")) (w2 : (Jvm.Cond.instantiable K0 kk).before a0 Z = true) (hty : parseFieldDescriptor d = some ty)
    (hd : decode bytes pc = .ok (.putfield index, 3)) (hp : pc + 3 = pc') (hn : narrow ty v = v) (hfi : fits ty v = true) (hge : n0 ≤ a) (F : Fld Z h a O n d old) (E : Exa Z h a K0)
    (k : ∀ h', Keep h h' [a] → Exa Z h' a K0 → Fld Z h' a O n d v → (∀ {O' n' d' : String} {w : Value} {t' : FieldType}, Laid Z a0 K0 O' n' d' → Laid Z a0 K0 O n d → n' ≠ n → parseFieldDescriptor d' = some t' → Fld Z h a O' n' d' w → Fld Z h' a O' n' d' w) → Run p l e R s m args below meth c Z own V n0 G h' cells slots pc' ls st) : Run p l e R s m args below meth c Z own V n0 G h cells slots pc ls (v :: .ref a :: st) := by
  subst hp
  intro vm0 k0 T L X hV hk hZ ho N eT
  have hZ' : Z.Warmed39 (s.setVm vm0).vm := hZ
  obtain ⟨T2, h2, X2, e2, W2, st2⟩ := putF X C.1 hZ' (own := own) ho w1 via eT F E (hL.imp id fun q => ⟨q.1, q.2.1, C.2.2.2.2.2.trans q.2.2⟩) w2 hty hn hfi (g := mkF m pc ls (v :: .ref a :: st)) rfl rfl (hb C.2.1 hd)
  obtain ⟨U, o, h1, r⟩ := k h2 (Keep.of_wr W2) (E.wr W2) (F.same W2) (fun L1 L2 hne ht F' => F'.other W2 (Or.inr (slot_ne L1 L2 hne ht hty))) vm0 k0 T2 _ X2 hV (by rw [W2.size]; exact hk) hZ ho (Fr.snoc X2 N hge) e2
  exact ⟨U, o, st2 _ h1, r⟩
theorem r_putfieldN {R0 O n d K0 : String} {index kk : Nat} {ty : FieldType} {a : Addr} {v v' old : Value} (C : Cx p c meth bytes maxL ret nm) (w1 : (Jvm.Cond.fieldLink own index R0 n d).before a0 Z = true) (via : Via Z R0 O n d) (hL : (Jvm.Cond.lays K0 O n d).before a0 Z = true ∨ ((Jvm.Cond.laysFinal K0 O n d).before a0 Z = true ∧ own = O ∧ nm = "<init>")) (w2 : (Jvm.Cond.instantiable K0 kk).before a0 Z = true) (hty : parseFieldDescriptor d = some ty)
    (hd : decode bytes pc = .ok (.putfield index, 3)) (hp : pc + 3 = pc') (hn : narrow ty v = v') (hfi : fits ty v' = true) (hge : n0 ≤ a) (F : Fld Z h a O n d old) (E : Exa Z h a K0)
    (k : ∀ h', Keep h h' [a] → Exa Z h' a K0 → Fld Z h' a O n d v' → (∀ {O' n' d' : String} {w : Value} {t' : FieldType}, Laid Z a0 K0 O' n' d' → Laid Z a0 K0 O n d → n' ≠ n → parseFieldDescriptor d' = some t' → Fld Z h a O' n' d' w → Fld Z h' a O' n' d' w) → Run p l e R s m args below meth c Z own V n0 G h' cells slots pc' ls st) : Run p l e R s m args below meth c Z own V n0 G h cells slots pc ls (v :: .ref a :: st) := by
  subst hp
  intro vm0 k0 T L X hV hk hZ ho N eT
  have hZ' : Z.Warmed39 (s.setVm vm0).vm := hZ
  obtain ⟨T2, h2, X2, e2, W2, st2⟩ := putFN X C.1 hZ' (own := own) ho w1 via eT F E (hL.imp id fun q => ⟨q.1, q.2.1, C.2.2.2.2.2.trans q.2.2⟩) w2 hty hn hfi (g := mkF m pc ls (v :: .ref a :: st)) rfl rfl (hb C.2.1 hd)
  obtain ⟨U, o, h1, r⟩ := k h2 (Keep.of_wr W2) (E.wr W2) (F.same W2) (fun L1 L2 hne ht F' => F'.other W2 (Or.inr (slot_ne L1 L2 hne ht hty))) vm0 k0 T2 _ X2 hV (by rw [W2.size]; exact hk) hZ ho (Fr.snoc X2 N hge) e2
  exact ⟨U, o, st2 _ h1, r⟩
theorem r_initO {index W : Nat} {a : Addr} (C : Cx p c meth bytes maxL ret nm) (w1 : (Jvm.Cond.methodLink own index Lib.objectInit).before a0 Z = true) (w2 : (Jvm.Cond.instanceMethod Lib.objectInit).before a0 Z = true) (w3 : (Jvm.Cond.code Lib.objectInit ⟨#[0xb1]⟩ 1 none).before a0 Z = true) (hd : decode bytes pc = .ok (.invokespecial index, 3)) (hp : pc + 3 = pc') (hsz : ls.size = maxL)
    (hf : 1 ≤ R.frames) (hW : (st.map fun v => v.category).sum ≤ W) (hl : W + 12 ≤ R.locals) (k : Run p l e R s m args below meth c Z own V n0 G h cells slots pc' ls st) : Run p l e R s m args below meth c Z own V n0 G h cells slots pc ls (.ref a :: st) := by
  subst hp
  intro vm0 k0 T L X hV hk hZ ho N eT
  have hZ' : Z.Warmed39 (s.setVm vm0).vm := hZ
  obtain ⟨T2, X2, e2, st2⟩ := initO X C.1 hZ' (own := own) ho w1 w2 w3 eT (g := mkF m pc ls (.ref a :: st)) rfl (by rw [C.2.2.1]; exact hsz) rfl (hb C.2.1 hd) hf (W := W) (by simpa using hW) hl
  obtain ⟨U, o, h1, r⟩ := k vm0 k0 T2 L X2 hV hk hZ ho N e2
  exact ⟨U, o, st2 _ h1, r⟩
theorem r_getstatic {R0 O n d host : String} {index : Nat} {v : Value} (C : Cx p c meth bytes maxL ret nm) (w1 : (Jvm.Cond.fieldLink own index R0 n d).before a0 Z = true) (via : Via Z R0 O n d) (hd : decode bytes pc = .ok (.getstatic index, 3)) (hp : pc + 3 = pc') (F : Sta Z h O n d v) (k : Run p l e R s m args below meth c Z own V n0 G h cells slots pc' ls (v :: st)) : Run p l e R s m args below meth c Z own V n0 G h cells slots pc ls st := by
  subst hp
  intro vm0 k0 T L X hV hk hZ ho N eT
  have hZ' : Z.Warmed39 (s.setVm vm0).vm := hZ
  obtain ⟨T2, X2, e2, st2⟩ := getS2 X C.1 hZ' (own := own) ho (host := "") (Or.inl w1) via eT F (g := mkF m pc ls st) rfl (hb C.2.1 hd)
  obtain ⟨U, o, h1, r⟩ := k vm0 k0 T2 L X2 hV hk hZ ho N e2
  exact ⟨U, o, st2 _ h1, r⟩
/-- the array at a: n places of kind ty, place j holds f j -/
def IA (Z : State) (h : Heap) (a : Addr) (ty : FieldType) (n : Nat) (f : Nat → Value) : Prop := ∃ cl : Cell, Arr Z h a cl ty ∧ cl.slots.size = n ∧ n < 2 ^ 31 ∧ ∀ j, j < n → cl.slots[j]? = some (f j)
theorem IA.lt {a : Addr} {ty : FieldType} {n : Nat} {f : Nat → Value} (A : IA Z h a ty n f) : a < h.size := by obtain ⟨cl, A, -⟩ := A; exact A.lt
theorem IA.keep {h' : Heap} {ws : List Addr} {a : Addr} {ty : FieldType} {n : Nat} {f : Nat → Value} (A : IA Z h a ty n f) (K : Keep h h' ws) (q : a ∉ ws) : IA Z h' a ty n f := by
  obtain ⟨cl, A, r⟩ := A
  exact ⟨cl, ⟨K.2.1 a cl A.1 q, A.2⟩, r⟩
theorem IA.congr {a : Addr} {ty : FieldType} {n : Nat} {f g : Nat → Value} (A : IA Z h a ty n f) (q : ∀ j, j < n → f j = g j) : IA Z h a ty n g := by
  obtain ⟨cl, A, r1, r2, r3⟩ := A
  exact ⟨cl, A, r1, r2, fun j hj => by rw [r3 j hj, q j hj]⟩
theorem tnn {j : Int32} {n : Nat} (h : j.toInt = (n : Int)) : ¬ j < 0 ∧ j.toNatClampNeg = n := by
  have h0 : ¬ j < 0 := nlt32.mpr (by rw [h]; show (0 : Int) ≤ _; omega)
  exact ⟨h0, by have := nat_of h0; omega⟩
theorem IA.set {h' : Heap} {a : Addr} {ty : FieldType} {n k : Nat} {f : Nat → Value} {v : Value} (A : IA Z h a ty n f) (W : Wr h h' a k v) : IA Z h' a ty n (fun j => if j = k then v else f j) := by
  obtain ⟨cl, A, r1, r2, r3⟩ := A
  refine ⟨cl.setSlot k v, A.same W, by rw [sz_set, r1], r2, fun j hj => ?_⟩
  show (cl.slots.setIfInBounds k v)[j]? = _
  rw [Array.getElem?_setIfInBounds]
  by_cases q : k = j
  · subst q; simp [r1, hj]
  · rw [if_neg q, r3 j hj]
    show some (f j) = some (if j = k then v else f j)
    rw [if_neg (fun z => q (Eq.symm z))]
theorem r_iaload {a : Addr} {n jn : Nat} {f : Nat → Int32} {j : Int32} {x : Int32} (C : Cx p c meth bytes maxL ret nm) (hd : decode bytes pc = .ok (.iaload, 1)) (hp : pc + 1 = pc') (A : IA Z h a .int n (fun i => .int (f i))) (hj : j.toInt = (jn : Int)) (hlt : jn < n) (hv : f jn = x) (k : Run p l e R s m args below meth c Z own V n0 G h cells slots pc' ls (.int x :: st)) : Run p l e R s m args below meth c Z own V n0 G h cells slots pc ls (.int j :: .ref a :: st) := by
  subst hp
  intro vm0 k0 T L X hV hk hZ ho N eT
  have hZ' : Z.Warmed39 (s.setVm vm0).vm := hZ
  obtain ⟨cl, A, r1, r2, r3⟩ := A
  obtain ⟨t1, t2⟩ := tnn hj
  obtain ⟨U, o, h1, r⟩ := k vm0 k0 T L X hV hk hZ ho N eT
  exact ⟨U, o, X.iaload C.1 (j := j) (v := .int x) (by rw [eT]; exact A.1) (State.isArrayOf_alike hZ'.alike A.2.1) A.2.2 (by rw [r1, t2]; exact fun q => q.elim t1 (Nat.not_le.mpr hlt)) (by rw [t2, r3 jn hlt, ← hv]) (g := mkF m pc ls (.int j :: .ref a :: st)) rfl rfl (hb C.2.1 hd) _ h1, r⟩
theorem r_laload {a : Addr} {n jn : Nat} {f : Nat → Int64} {j : Int32} {x : Int64} (C : Cx p c meth bytes maxL ret nm) (hd : decode bytes pc = .ok (.laload, 1)) (hp : pc + 1 = pc') (A : IA Z h a .long n (fun i => .long (f i))) (hj : j.toInt = (jn : Int)) (hlt : jn < n) (hv : f jn = x) (k : Run p l e R s m args below meth c Z own V n0 G h cells slots pc' ls (.long x :: st)) : Run p l e R s m args below meth c Z own V n0 G h cells slots pc ls (.int j :: .ref a :: st) := by
  subst hp
  intro vm0 k0 T L X hV hk hZ ho N eT
  have hZ' : Z.Warmed39 (s.setVm vm0).vm := hZ
  obtain ⟨cl, A, r1, r2, r3⟩ := A
  obtain ⟨t1, t2⟩ := tnn hj
  obtain ⟨U, o, h1, r⟩ := k vm0 k0 T L X hV hk hZ ho N eT
  exact ⟨U, o, X.laload C.1 (j := j) (v := .long x) (by rw [eT]; exact A.1) (State.isArrayOf_alike hZ'.alike A.2.1) A.2.2 (by rw [r1, t2]; exact fun q => q.elim t1 (Nat.not_le.mpr hlt)) (by rw [t2, r3 jn hlt, ← hv]) (g := mkF m pc ls (.int j :: .ref a :: st)) rfl rfl (hb C.2.1 hd) _ h1, r⟩
theorem r_caload {a : Addr} {n jn : Nat} {f : Nat → Int32} {j : Int32} {x : Int32} (C : Cx p c meth bytes maxL ret nm) (hd : decode bytes pc = .ok (.caload, 1)) (hp : pc + 1 = pc') (A : IA Z h a .char n (fun i => .int (f i))) (hj : j.toInt = (jn : Int)) (hlt : jn < n) (hv : f jn = x) (k : Run p l e R s m args below meth c Z own V n0 G h cells slots pc' ls (.int x :: st)) : Run p l e R s m args below meth c Z own V n0 G h cells slots pc ls (.int j :: .ref a :: st) := by
  subst hp
  intro vm0 k0 T L X hV hk hZ ho N eT
  have hZ' : Z.Warmed39 (s.setVm vm0).vm := hZ
  obtain ⟨cl, A, r1, r2, r3⟩ := A
  obtain ⟨t1, t2⟩ := tnn hj
  obtain ⟨U, o, h1, r⟩ := k vm0 k0 T L X hV hk hZ ho N eT
  exact ⟨U, o, X.caload C.1 (j := j) (v := .int x) (by rw [eT]; exact A.1) (State.isArrayOf_alike hZ'.alike A.2.1) A.2.2 (by rw [r1, t2]; exact fun q => q.elim t1 (Nat.not_le.mpr hlt)) (by rw [t2, r3 jn hlt, ← hv]) (g := mkF m pc ls (.int j :: .ref a :: st)) rfl rfl (hb C.2.1 hd) _ h1, r⟩
theorem r_baload {a : Addr} {n jn : Nat} {f : Nat → Int32} {j : Int32} {x : Int32} (C : Cx p c meth bytes maxL ret nm) (hd : decode bytes pc = .ok (.baload, 1)) (hp : pc + 1 = pc') (A : IA Z h a .byte n (fun i => .int (f i))) (hj : j.toInt = (jn : Int)) (hlt : jn < n) (hv : f jn = x) (k : Run p l e R s m args below meth c Z own V n0 G h cells slots pc' ls (.int x :: st)) : Run p l e R s m args below meth c Z own V n0 G h cells slots pc ls (.int j :: .ref a :: st) := by
  subst hp
  intro vm0 k0 T L X hV hk hZ ho N eT
  have hZ' : Z.Warmed39 (s.setVm vm0).vm := hZ
  obtain ⟨cl, A, r1, r2, r3⟩ := A
  obtain ⟨t1, t2⟩ := tnn hj
  obtain ⟨U, o, h1, r⟩ := k vm0 k0 T L X hV hk hZ ho N eT
  exact ⟨U, o, X.baloadBytes C.1 (j := j) (v := .int x) (by rw [eT]; exact A.1) (State.isArrayOf_alike hZ'.alike A.2.1) A.2.2 (by rw [r1, t2]; exact fun q => q.elim t1 (Nat.not_le.mpr hlt)) (by rw [t2, r3 jn hlt, ← hv]) (g := mkF m pc ls (.int j :: .ref a :: st)) rfl rfl (hb C.2.1 hd) _ h1, r⟩
theorem r_zaload {a : Addr} {n jn : Nat} {f : Nat → Int32} {j : Int32} {x : Int32} (C : Cx p c meth bytes maxL ret nm) (hd : decode bytes pc = .ok (.baload, 1)) (hp : pc + 1 = pc') (A : IA Z h a .boolean n (fun i => .int (f i))) (hj : j.toInt = (jn : Int)) (hlt : jn < n) (hv : f jn = x) (k : Run p l e R s m args below meth c Z own V n0 G h cells slots pc' ls (.int x :: st)) : Run p l e R s m args below meth c Z own V n0 G h cells slots pc ls (.int j :: .ref a :: st) := by
  subst hp
  intro vm0 k0 T L X hV hk hZ ho N eT
  have hZ' : Z.Warmed39 (s.setVm vm0).vm := hZ
  obtain ⟨cl, A, r1, r2, r3⟩ := A
  obtain ⟨t1, t2⟩ := tnn hj
  obtain ⟨U, o, h1, r⟩ := k vm0 k0 T L X hV hk hZ ho N eT
  exact ⟨U, o, X.baloadBooleans C.1 (j := j) (v := .int x) (by rw [eT]; exact A.1) (State.isArrayOf_alike hZ'.alike A.2.1) A.2.2 (by rw [r1, t2]; exact fun q => q.elim t1 (Nat.not_le.mpr hlt)) (by rw [t2, r3 jn hlt, ← hv]) (g := mkF m pc ls (.int j :: .ref a :: st)) rfl rfl (hb C.2.1 hd) _ h1, r⟩
theorem r_iastore {a : Addr} {n jn : Nat} {f : Nat → Int32} {j : Int32} {x : Int32} (C : Cx p c meth bytes maxL ret nm) (hd : decode bytes pc = .ok (.iastore, 1)) (hp : pc + 1 = pc') (A : IA Z h a .int n (fun i => .int (f i))) (hj : j.toInt = (jn : Int)) (hlt : jn < n) (hge : n0 ≤ a) (k : ∀ h', Keep h h' [a] → IA Z h' a .int n (fun i => .int (if i = jn then x else f i)) → Run p l e R s m args below meth c Z own V n0 G h' cells slots pc' ls st) : Run p l e R s m args below meth c Z own V n0 G h cells slots pc ls (.int x :: .int j :: .ref a :: st) := by
  subst hp
  intro vm0 k0 T L X hV hk hZ ho N eT
  have hZ' : Z.Warmed39 (s.setVm vm0).vm := hZ
  have A0 := A
  obtain ⟨cl, A, r1, r2, r3⟩ := A
  obtain ⟨t1, t2⟩ := tnn hj
  obtain ⟨T2, h2, X2, e2, W2, st2⟩ := stI X C.1 hZ' eT A (j := j) (x := x) (by rw [r1, t2]; exact fun q => q.elim t1 (Nat.not_le.mpr hlt)) (g := mkF m pc ls (.int x :: .int j :: .ref a :: st)) rfl rfl (hb C.2.1 hd)
  rw [t2] at W2
  obtain ⟨U, o, h1, r⟩ := k h2 (Keep.of_wr W2) ((A0.set W2).congr fun i _ => by by_cases q : i = jn <;> simp [q]) vm0 k0 T2 _ X2 hV (by rw [W2.size]; exact hk) hZ ho (Fr.snoc X2 N hge) e2
  exact ⟨U, o, st2 _ h1, r⟩
theorem r_lastore {a : Addr} {n jn : Nat} {f : Nat → Int64} {j : Int32} {x : Int64} (C : Cx p c meth bytes maxL ret nm) (hd : decode bytes pc = .ok (.lastore, 1)) (hp : pc + 1 = pc') (A : IA Z h a .long n (fun i => .long (f i))) (hj : j.toInt = (jn : Int)) (hlt : jn < n) (hge : n0 ≤ a) (k : ∀ h', Keep h h' [a] → IA Z h' a .long n (fun i => .long (if i = jn then x else f i)) → Run p l e R s m args below meth c Z own V n0 G h' cells slots pc' ls st) : Run p l e R s m args below meth c Z own V n0 G h cells slots pc ls (.long x :: .int j :: .ref a :: st) := by
  subst hp
  intro vm0 k0 T L X hV hk hZ ho N eT
  have hZ' : Z.Warmed39 (s.setVm vm0).vm := hZ
  have A0 := A
  obtain ⟨cl, A, r1, r2, r3⟩ := A
  obtain ⟨t1, t2⟩ := tnn hj
  obtain ⟨T2, h2, X2, e2, W2, st2⟩ := stJ X C.1 hZ' eT A (j := j) (x := x) (by rw [r1, t2]; exact fun q => q.elim t1 (Nat.not_le.mpr hlt)) (g := mkF m pc ls (.long x :: .int j :: .ref a :: st)) rfl rfl (hb C.2.1 hd)
  rw [t2] at W2
  obtain ⟨U, o, h1, r⟩ := k h2 (Keep.of_wr W2) ((A0.set W2).congr fun i _ => by by_cases q : i = jn <;> simp [q]) vm0 k0 T2 _ X2 hV (by rw [W2.size]; exact hk) hZ ho (Fr.snoc X2 N hge) e2
  exact ⟨U, o, st2 _ h1, r⟩
theorem r_castore {a : Addr} {n jn : Nat} {f : Nat → Int32} {j : Int32} {x : Int32} (C : Cx p c meth bytes maxL ret nm) (hd : decode bytes pc = .ok (.castore, 1)) (hp : pc + 1 = pc') (A : IA Z h a .char n (fun i => .int (f i))) (hj : j.toInt = (jn : Int)) (hlt : jn < n) (hge : n0 ≤ a) (k : ∀ h', Keep h h' [a] → IA Z h' a .char n (fun i => .int (if i = jn then (nar .char x) else f i)) → Run p l e R s m args below meth c Z own V n0 G h' cells slots pc' ls st) : Run p l e R s m args below meth c Z own V n0 G h cells slots pc ls (.int x :: .int j :: .ref a :: st) := by
  subst hp
  intro vm0 k0 T L X hV hk hZ ho N eT
  have hZ' : Z.Warmed39 (s.setVm vm0).vm := hZ
  have A0 := A
  obtain ⟨cl, A, r1, r2, r3⟩ := A
  obtain ⟨t1, t2⟩ := tnn hj
  obtain ⟨T2, h2, X2, e2, W2, st2⟩ := stC X C.1 hZ' eT A (j := j) (x := x) (by rw [r1, t2]; exact fun q => q.elim t1 (Nat.not_le.mpr hlt)) (g := mkF m pc ls (.int x :: .int j :: .ref a :: st)) rfl rfl (hb C.2.1 hd)
  rw [t2] at W2
  obtain ⟨U, o, h1, r⟩ := k h2 (Keep.of_wr W2) ((A0.set W2).congr fun i _ => by by_cases q : i = jn <;> simp [q]) vm0 k0 T2 _ X2 hV (by rw [W2.size]; exact hk) hZ ho (Fr.snoc X2 N hge) e2
  exact ⟨U, o, st2 _ h1, r⟩
theorem r_bastore {a : Addr} {n jn : Nat} {f : Nat → Int32} {j : Int32} {x : Int32} (C : Cx p c meth bytes maxL ret nm) (hd : decode bytes pc = .ok (.bastore, 1)) (hp : pc + 1 = pc') (A : IA Z h a .byte n (fun i => .int (f i))) (hj : j.toInt = (jn : Int)) (hlt : jn < n) (hge : n0 ≤ a) (k : ∀ h', Keep h h' [a] → IA Z h' a .byte n (fun i => .int (if i = jn then (nar .byte x) else f i)) → Run p l e R s m args below meth c Z own V n0 G h' cells slots pc' ls st) : Run p l e R s m args below meth c Z own V n0 G h cells slots pc ls (.int x :: .int j :: .ref a :: st) := by
  subst hp
  intro vm0 k0 T L X hV hk hZ ho N eT
  have hZ' : Z.Warmed39 (s.setVm vm0).vm := hZ
  have A0 := A
  obtain ⟨cl, A, r1, r2, r3⟩ := A
  obtain ⟨t1, t2⟩ := tnn hj
  obtain ⟨T2, h2, X2, e2, W2, st2⟩ := stB X C.1 hZ' eT A (j := j) (x := x) (by rw [r1, t2]; exact fun q => q.elim t1 (Nat.not_le.mpr hlt)) (g := mkF m pc ls (.int x :: .int j :: .ref a :: st)) rfl rfl (hb C.2.1 hd)
  rw [t2] at W2
  obtain ⟨U, o, h1, r⟩ := k h2 (Keep.of_wr W2) ((A0.set W2).congr fun i _ => by by_cases q : i = jn <;> simp [q]) vm0 k0 T2 _ X2 hV (by rw [W2.size]; exact hk) hZ ho (Fr.snoc X2 N hge) e2
  exact ⟨U, o, st2 _ h1, r⟩
theorem r_zastore {a : Addr} {n jn : Nat} {f : Nat → Int32} {j : Int32} {x : Int32} (C : Cx p c meth bytes maxL ret nm) (hd : decode bytes pc = .ok (.bastore, 1)) (hp : pc + 1 = pc') (A : IA Z h a .boolean n (fun i => .int (f i))) (hj : j.toInt = (jn : Int)) (hlt : jn < n) (hge : n0 ≤ a) (k : ∀ h', Keep h h' [a] → IA Z h' a .boolean n (fun i => .int (if i = jn then (nar .boolean x) else f i)) → Run p l e R s m args below meth c Z own V n0 G h' cells slots pc' ls st) : Run p l e R s m args below meth c Z own V n0 G h cells slots pc ls (.int x :: .int j :: .ref a :: st) := by
  subst hp
  intro vm0 k0 T L X hV hk hZ ho N eT
  have hZ' : Z.Warmed39 (s.setVm vm0).vm := hZ
  have A0 := A
  obtain ⟨cl, A, r1, r2, r3⟩ := A
  obtain ⟨t1, t2⟩ := tnn hj
  obtain ⟨T2, h2, X2, e2, W2, st2⟩ := stZ X C.1 hZ' eT A (j := j) (x := x) (by rw [r1, t2]; exact fun q => q.elim t1 (Nat.not_le.mpr hlt)) (g := mkF m pc ls (.int x :: .int j :: .ref a :: st)) rfl rfl (hb C.2.1 hd)
  rw [t2] at W2
  obtain ⟨U, o, h1, r⟩ := k h2 (Keep.of_wr W2) ((A0.set W2).congr fun i _ => by by_cases q : i = jn <;> simp [q]) vm0 k0 T2 _ X2 hV (by rw [W2.size]; exact hk) hZ ho (Fr.snoc X2 N hge) e2
  exact ⟨U, o, st2 _ h1, r⟩
theorem r_arraylength {a : Addr} {ty : FieldType} {n : Nat} {f : Nat → Value} {z : Int32} (C : Cx p c meth bytes maxL ret nm) (hd : decode bytes pc = .ok (.arraylength, 1)) (hp : pc + 1 = pc') (A : IA Z h a ty n f) (hz : z.toInt = (n : Int)) (k : Run p l e R s m args below meth c Z own V n0 G h cells slots pc' ls (.int z :: st)) : Run p l e R s m args below meth c Z own V n0 G h cells slots pc ls (.ref a :: st) := by
  subst hp
  intro vm0 k0 T L X hV hk hZ ho N eT
  have hZ' : Z.Warmed39 (s.setVm vm0).vm := hZ
  obtain ⟨cl, A, r1, r2, r3⟩ := A
  obtain ⟨t1, t2⟩ := tnn hz
  obtain ⟨U, o, h1, r⟩ := k vm0 k0 T L X hV hk hZ ho N eT
  have q : cl.slots.size.toInt32 = z := len_of (by rw [r1, t2]) t1
  exact ⟨U, o, X.arraylength C.1 (by rw [eT]; exact A.1) (State.isArrayOf_alike hZ'.alike A.2.1) (g := mkF m pc ls (.ref a :: st)) rfl rfl (hb C.2.1 hd) _ (by rw [q]; exact h1), r⟩
theorem r_newarray {aty : ArrayType} {ty : FieldType} {dv : Value} (hdv : defaultValue ty = dv) {z : Int32} {n cap : Nat} (C : Cx p c meth bytes maxL ret nm) (w1 : (Jvm.Cond.arrayClass ty).before a0 Z = true) (hty : newarray.typeOf aty = ty) (hd : decode bytes pc = .ok (.newarray aty, 2)) (hp : pc + 2 = pc') (hz : z.toInt = (n : Int)) (hcap : n ≤ cap) (hbg : cap * 8 ≤ 536870912) (hc : cells + 1 ≤ R.cells) (hs : slots + cap ≤ R.slots)
    (k : ∀ (a : Addr) h', @Eq Nat a h.size → Keep h h' [] → IA Z h' a ty n (fun _ => dv) → Run p l e R s m args below meth c Z own V n0 G h' (cells + 1) (slots + cap) pc' ls (.ref a :: st)) : Run p l e R s m args below meth c Z own V n0 G h cells slots pc ls (.int z :: st) := by
  subst hp hty hdv
  intro vm0 k0 T L X hV hk hZ ho N eT
  have hZ' : Z.Warmed39 (s.setVm vm0).vm := hZ
  obtain ⟨t1, t2⟩ := tnn hz
  obtain ⟨T2, h2, k2, X2, e2, E2, A2, st2⟩ := newP X C.1 hZ' w1 eT (g := mkF m pc ls (.int z :: st)) rfl (hb C.2.1 hd) rfl t1 (cap := cap) (by rw [t2]; exact hcap) hbg hc hs
  obtain ⟨U, o, h1, r⟩ := k _ h2 rfl ((Keep.refl h []).ext E2) ⟨_, A2, by rw [sz_new, t2], by have := rng32 z; omega, fun j hj => by simp [newA, t2, hj]⟩ vm0 k0 T2 L X2 hV (Nat.le_trans hk E2.1) hZ ho N e2
  exact ⟨U, o, st2 _ h1, r⟩
theorem Run.mono {ce sl : Nat} (k : Run p l e R s m args below meth c Z own V n0 G h ce sl pc ls st) (h1 : cells ≤ ce) (h2 : slots ≤ sl) : Run p l e R s m args below meth c Z own V n0 G h cells slots pc ls st :=
  fun vm0 k0 T L X => k vm0 k0 T L (X.mono h1 h2)
/-- where roads join: the goal from the join on, said once -/
theorem join {α : Type} (Φ : α → Prop) (hJ : α → Heap) (ce sl pcJ : Nat) (lsJ : α → Array Slot) (stJ : α → List Value) (j : ∀ x, Φ x → Run p l e R s m args below meth c Z own V n0 G (hJ x) ce sl pcJ (lsJ x) (stJ x)) (k : (∀ x, Φ x → Run p l e R s m args below meth c Z own V n0 G (hJ x) ce sl pcJ (lsJ x) (stJ x)) → Run p l e R s m args below meth c Z own V n0 G h cells slots pc ls st) : Run p l e R s m args below meth c Z own V n0 G h cells slots pc ls st := k j
/-- a loop: by a measure -/
theorem loop {α : Type} (μ : α → Nat) (Φ : α → Prop) (hJ : α → Heap) (ce sl pcJ : Nat) (lsJ : α → Array Slot) (stJ : α → List Value)
    (body : ∀ x, Φ x → (∀ x', Φ x' → μ x' < μ x → Run p l e R s m args below meth c Z own V n0 G (hJ x') ce sl pcJ (lsJ x') (stJ x')) → Run p l e R s m args below meth c Z own V n0 G (hJ x) ce sl pcJ (lsJ x) (stJ x)) (k : (∀ x, Φ x → Run p l e R s m args below meth c Z own V n0 G (hJ x) ce sl pcJ (lsJ x) (stJ x)) → Run p l e R s m args below meth c Z own V n0 G h cells slots pc ls st) : Run p l e R s m args below meth c Z own V n0 G h cells slots pc ls st := by
  refine k ?_
  have H : ∀ n x, μ x < n → Φ x → Run p l e R s m args below meth c Z own V n0 G (hJ x) ce sl pcJ (lsJ x) (stJ x) := by
    intro n
    induction n with
    | zero => intro x hx; omega
    | succ n ih => intro x hx hp; exact body x hp fun x' hp' hlt => ih x' (by omega) hp'
  exact fun x hp => H _ x (Nat.lt_succ_self _) hp
theorem xadd64 {x y : Int64} (h1 : -4611686018427387904 ≤ x.toInt + y.toInt) (h2 : x.toInt + y.toInt ≤ 4611686018427387904) : (x + y).toInt = x.toInt + y.toInt := by
  have h3 := c_ladd x y
  have h4 := rng64 (x + y)
  omega
theorem xsub64 {x y : Int64} (h1 : -4611686018427387904 ≤ x.toInt - y.toInt) (h2 : x.toInt - y.toInt ≤ 4611686018427387904) : (x - y).toInt = x.toInt - y.toInt := by
  have h3 := c_lsub x y
  have h4 := rng64 (x - y)
  omega
theorem xmul64 {x c : Int64} {k : Int} (hc : c.toInt = k) (h1 : -4611686018427387904 ≤ x.toInt * k) (h2 : x.toInt * k ≤ 4611686018427387904) : (x * c).toInt = x.toInt * k := by
  have h3 := c_lmul x c
  rw [hc] at h3
  have h4 := rng64 (x * c)
  generalize x.toInt * k = P at *
  omega
theorem xadd32 {x y : Int32} (h1 : -2147483648 ≤ x.toInt + y.toInt) (h2 : x.toInt + y.toInt < 2147483648) : (x + y).toInt = x.toInt + y.toInt := by
  have h3 := c_iadd x y
  have h4 := rng32 (x + y)
  omega
theorem xsub32 {x y : Int32} (h1 : -2147483648 ≤ x.toInt - y.toInt) (h2 : x.toInt - y.toInt < 2147483648) : (x - y).toInt = x.toInt - y.toInt := by
  have h3 := c_isub x y
  have h4 := rng32 (x - y)
  omega
theorem xl2i {x : Int64} (h1 : -2147483648 ≤ x.toInt) (h2 : x.toInt < 2147483648) : x.toInt32.toInt = x.toInt := by
  have h3 := c_l2i x
  have h4 := rng32 x.toInt32
  omega
end Kit
section Facts
theorem t0 {Z : State} {a0 : Array Value} (hw : ∀ d ∈ tables_1, d.before a0 Z = true) : (Jvm.Cond.arrayClass Jvm.ClassFile.FieldType.int).before a0 Z = true := hw _ (List.mem_of_getElem? (i := 0) rfl)
theorem t1 {Z : State} {a0 : Array Value} (hw : ∀ d ∈ tables_1, d.before a0 Z = true) : (Jvm.Cond.arrayClass Jvm.ClassFile.FieldType.boolean).before a0 Z = true := hw _ (List.mem_of_getElem? (i := 1) rfl)
theorem t2 {Z : State} {a0 : Array Value} (hw : ∀ d ∈ tables_1, d.before a0 Z = true) : (Jvm.Cond.methodLink "com/example/bellsplit/bellsplit/search/IntegerPartitionSearchRunsPinLaw" (7 : Nat) ({ cls := "com/example/bellsplit/bellsplit/search/IntegerPartitionSearch", name := "runs", desc := "([I[Z)[I" } : Jvm.MethodName)).before a0 Z = true := hw _ (List.mem_of_getElem? (i := 2) rfl)
theorem t3 {Z : State} {a0 : Array Value} (hw : ∀ d ∈ tables_1, d.before a0 Z = true) : (Jvm.Cond.static ({ cls := "com/example/bellsplit/bellsplit/search/IntegerPartitionSearch", name := "runs", desc := "([I[Z)[I" } : Jvm.MethodName)).before a0 Z = true := hw _ (List.mem_of_getElem? (i := 3) rfl)
theorem t4 {Z : State} {a0 : Array Value} (hw : ∀ d ∈ tables_1, d.before a0 Z = true) : (Jvm.Cond.initialized "com/example/bellsplit/bellsplit/search/IntegerPartitionSearch").before a0 Z = true := hw _ (List.mem_of_getElem? (i := 4) rfl)
theorem t5 {Z : State} {a0 : Array Value} (hw : ∀ d ∈ tables_1, d.before a0 Z = true) : (Jvm.Cond.code ({ cls := "com/example/bellsplit/bellsplit/search/IntegerPartitionSearch", name := "runs", desc := "([I[Z)[I" } : Jvm.MethodName) prog_76_method_16_code (6 : Nat) (Option.some (Jvm.ClassFile.FieldType.array Jvm.ClassFile.FieldType.int))).before a0 Z = true := hw _ (List.mem_of_getElem? (i := 5) rfl)
theorem t6 {Z : State} {a0 : Array Value} (hw : ∀ d ∈ tables_1, d.before a0 Z = true) : (Jvm.Cond.methodLink "com/example/bellsplit/bellsplit/search/IntegerPartitionSearchRunsPinLaw" (13 : Nat) ({ cls := "com/example/bellsplit/bellsplit/search/IntegerPartitionSearchRunsPinLaw", name := "check", desc := "([I[I[ZII)Z" } : Jvm.MethodName)).before a0 Z = true := hw _ (List.mem_of_getElem? (i := 6) rfl)
theorem t7 {Z : State} {a0 : Array Value} (hw : ∀ d ∈ tables_1, d.before a0 Z = true) : (Jvm.Cond.static ({ cls := "com/example/bellsplit/bellsplit/search/IntegerPartitionSearchRunsPinLaw", name := "check", desc := "([I[I[ZII)Z" } : Jvm.MethodName)).before a0 Z = true := hw _ (List.mem_of_getElem? (i := 7) rfl)
theorem t8 {Z : State} {a0 : Array Value} (hw : ∀ d ∈ tables_1, d.before a0 Z = true) : (Jvm.Cond.initialized "com/example/bellsplit/bellsplit/search/IntegerPartitionSearchRunsPinLaw").before a0 Z = true := hw _ (List.mem_of_getElem? (i := 8) rfl)
theorem t9 {Z : State} {a0 : Array Value} (hw : ∀ d ∈ tables_1, d.before a0 Z = true) : (Jvm.Cond.code ({ cls := "com/example/bellsplit/bellsplit/search/IntegerPartitionSearchRunsPinLaw", name := "check", desc := "([I[I[ZII)Z" } : Jvm.MethodName) method_4_code (9 : Nat) (Option.some Jvm.ClassFile.FieldType.boolean)).before a0 Z = true := hw _ (List.mem_of_getElem? (i := 9) rfl)
theorem t10 {Z : State} {a0 : Array Value} (hw : ∀ d ∈ tables_1, d.before a0 Z = true) : (Jvm.Cond.methodLink "com/example/bellsplit/bellsplit/search/IntegerPartitionSearchRunsPinLaw" (19 : Nat) ({ cls := "com/example/bellsplit/bellsplit/search/IntegerPartitionSearchRunsPinLaw", name := "same", desc := "([I[ZII)Z" } : Jvm.MethodName)).before a0 Z = true := hw _ (List.mem_of_getElem? (i := 10) rfl)
theorem t11 {Z : State} {a0 : Array Value} (hw : ∀ d ∈ tables_1, d.before a0 Z = true) : (Jvm.Cond.static ({ cls := "com/example/bellsplit/bellsplit/search/IntegerPartitionSearchRunsPinLaw", name := "same", desc := "([I[ZII)Z" } : Jvm.MethodName)).before a0 Z = true := hw _ (List.mem_of_getElem? (i := 11) rfl)
theorem t12 {Z : State} {a0 : Array Value} (hw : ∀ d ∈ tables_1, d.before a0 Z = true) : (Jvm.Cond.code ({ cls := "com/example/bellsplit/bellsplit/search/IntegerPartitionSearchRunsPinLaw", name := "same", desc := "([I[ZII)Z" } : Jvm.MethodName) method_3_code (4 : Nat) (Option.some Jvm.ClassFile.FieldType.boolean)).before a0 Z = true := hw _ (List.mem_of_getElem? (i := 12) rfl)
theorem d1_0 : decode method_3_code 0 = .ok (.iload_n 3, 1) := by decide +kernel
theorem d1_1 : decode method_3_code 1 = .ok (.iconst 1, 1) := by decide +kernel
theorem d1_2 : decode method_3_code 2 = .ok (.iadd, 1) := by decide +kernel
theorem d1_3 : decode method_3_code 3 = .ok (.iload_n 2, 1) := by decide +kernel
theorem d1_4 : decode method_3_code 4 = .ok (.if_icmp .ge 29, 3) := by decide +kernel
theorem d1_33 : decode method_3_code 33 = .ok (.iconst 0, 1) := by decide +kernel
theorem d1_34 : decode method_3_code 34 = .ok (.ireturn, 1) := by decide +kernel
theorem d1_7 : decode method_3_code 7 = .ok (.aload_n 0, 1) := by decide +kernel
theorem d1_8 : decode method_3_code 8 = .ok (.iload_n 3, 1) := by decide +kernel
theorem d1_9 : decode method_3_code 9 = .ok (.iaload, 1) := by decide +kernel
theorem d1_10 : decode method_3_code 10 = .ok (.aload_n 0, 1) := by decide +kernel
theorem d1_11 : decode method_3_code 11 = .ok (.iload_n 3, 1) := by decide +kernel
theorem d1_12 : decode method_3_code 12 = .ok (.iconst 1, 1) := by decide +kernel
theorem d1_13 : decode method_3_code 13 = .ok (.iadd, 1) := by decide +kernel
theorem d1_14 : decode method_3_code 14 = .ok (.iaload, 1) := by decide +kernel
theorem d1_15 : decode method_3_code 15 = .ok (.if_icmp .ne 18, 3) := by decide +kernel
theorem d1_18 : decode method_3_code 18 = .ok (.aload_n 1, 1) := by decide +kernel
theorem d1_19 : decode method_3_code 19 = .ok (.iload_n 3, 1) := by decide +kernel
theorem d1_20 : decode method_3_code 20 = .ok (.baload, 1) := by decide +kernel
theorem d1_21 : decode method_3_code 21 = .ok (.aload_n 1, 1) := by decide +kernel
theorem d1_22 : decode method_3_code 22 = .ok (.iload_n 3, 1) := by decide +kernel
theorem d1_23 : decode method_3_code 23 = .ok (.iconst 1, 1) := by decide +kernel
theorem d1_24 : decode method_3_code 24 = .ok (.iadd, 1) := by decide +kernel
theorem d1_25 : decode method_3_code 25 = .ok (.baload, 1) := by decide +kernel
theorem d1_26 : decode method_3_code 26 = .ok (.if_icmp .ne 7, 3) := by decide +kernel
theorem d1_29 : decode method_3_code 29 = .ok (.iconst 1, 1) := by decide +kernel
theorem d1_30 : decode method_3_code 30 = .ok (.goto 4, 3) := by decide +kernel
theorem d2_0 : decode method_4_code 0 = .ok (.iload 4, 2) := by decide +kernel
theorem d2_2 : decode method_4_code 2 = .ok (.iload_n 3, 1) := by decide +kernel
theorem d2_3 : decode method_4_code 3 = .ok (.if_icmp .lt 5, 3) := by decide +kernel
theorem d2_6 : decode method_4_code 6 = .ok (.iconst 1, 1) := by decide +kernel
theorem d2_7 : decode method_4_code 7 = .ok (.ireturn, 1) := by decide +kernel
theorem d2_8 : decode method_4_code 8 = .ok (.aload_n 1, 1) := by decide +kernel
theorem d2_9 : decode method_4_code 9 = .ok (.aload_n 2, 1) := by decide +kernel
theorem d2_10 : decode method_4_code 10 = .ok (.iload_n 3, 1) := by decide +kernel
theorem d2_11 : decode method_4_code 11 = .ok (.iload 4, 2) := by decide +kernel
theorem d2_13 : decode method_4_code 13 = .ok (.invokestatic 19, 3) := by decide +kernel
theorem d2_16 : decode method_4_code 16 = .ok (.istore 5, 2) := by decide +kernel
theorem d2_18 : decode method_4_code 18 = .ok (.iload 5, 2) := by decide +kernel
theorem d2_20 : decode method_4_code 20 = .ok (.ifCond .eq 20, 3) := by decide +kernel
theorem d2_40 : decode method_4_code 40 = .ok (.iconst 0, 1) := by decide +kernel
theorem d2_41 : decode method_4_code 41 = .ok (.istore 6, 2) := by decide +kernel
theorem d2_43 : decode method_4_code 43 = .ok (.iload 6, 2) := by decide +kernel
theorem d2_45 : decode method_4_code 45 = .ok (.ifCond .eq 20, 3) := by decide +kernel
theorem d2_65 : decode method_4_code 65 = .ok (.iconst 0, 1) := by decide +kernel
theorem d2_66 : decode method_4_code 66 = .ok (.istore 7, 2) := by decide +kernel
theorem d2_68 : decode method_4_code 68 = .ok (.iconst 1, 1) := by decide +kernel
theorem d2_69 : decode method_4_code 69 = .ok (.iload 5, 2) := by decide +kernel
theorem d2_71 : decode method_4_code 71 = .ok (.ifCond .eq 7, 3) := by decide +kernel
theorem d2_78 : decode method_4_code 78 = .ok (.iconst 0, 1) := by decide +kernel
theorem d2_79 : decode method_4_code 79 = .ok (.iadd, 1) := by decide +kernel
theorem d2_80 : decode method_4_code 80 = .ok (.iload 6, 2) := by decide +kernel
theorem d2_82 : decode method_4_code 82 = .ok (.ifCond .eq 7, 3) := by decide +kernel
theorem d2_89 : decode method_4_code 89 = .ok (.iconst 0, 1) := by decide +kernel
theorem d2_90 : decode method_4_code 90 = .ok (.iadd, 1) := by decide +kernel
theorem d2_91 : decode method_4_code 91 = .ok (.iload 7, 2) := by decide +kernel
theorem d2_93 : decode method_4_code 93 = .ok (.ifCond .eq 7, 3) := by decide +kernel
theorem d2_100 : decode method_4_code 100 = .ok (.iconst 0, 1) := by decide +kernel
theorem d2_101 : decode method_4_code 101 = .ok (.iadd, 1) := by decide +kernel
theorem d2_102 : decode method_4_code 102 = .ok (.istore 8, 2) := by decide +kernel
theorem d2_104 : decode method_4_code 104 = .ok (.aload_n 0, 1) := by decide +kernel
theorem d2_105 : decode method_4_code 105 = .ok (.iload 4, 2) := by decide +kernel
theorem d2_107 : decode method_4_code 107 = .ok (.iaload, 1) := by decide +kernel
theorem d2_108 : decode method_4_code 108 = .ok (.iload 8, 2) := by decide +kernel
theorem d2_110 : decode method_4_code 110 = .ok (.if_icmp .ne 7, 3) := by decide +kernel
theorem d2_113 : decode method_4_code 113 = .ok (.iconst 1, 1) := by decide +kernel
theorem d2_114 : decode method_4_code 114 = .ok (.goto 4, 3) := by decide +kernel
theorem d2_118 : decode method_4_code 118 = .ok (.ireturn, 1) := by decide +kernel
theorem d2_23 : decode method_4_code 23 = .ok (.aload_n 1, 1) := by decide +kernel
theorem d2_24 : decode method_4_code 24 = .ok (.aload_n 2, 1) := by decide +kernel
theorem d2_25 : decode method_4_code 25 = .ok (.iload_n 3, 1) := by decide +kernel
theorem d2_26 : decode method_4_code 26 = .ok (.iload 4, 2) := by decide +kernel
theorem d2_28 : decode method_4_code 28 = .ok (.iconst 1, 1) := by decide +kernel
theorem d2_29 : decode method_4_code 29 = .ok (.iadd, 1) := by decide +kernel
theorem d2_30 : decode method_4_code 30 = .ok (.invokestatic 19, 3) := by decide +kernel
theorem d2_33 : decode method_4_code 33 = .ok (.ifCond .eq 7, 3) := by decide +kernel
theorem d2_74 : decode method_4_code 74 = .ok (.iconst 1, 1) := by decide +kernel
theorem d2_75 : decode method_4_code 75 = .ok (.goto 4, 3) := by decide +kernel
theorem d2_36 : decode method_4_code 36 = .ok (.iconst 1, 1) := by decide +kernel
theorem d2_37 : decode method_4_code 37 = .ok (.goto 4, 3) := by decide +kernel
theorem d2_48 : decode method_4_code 48 = .ok (.aload_n 1, 1) := by decide +kernel
theorem d2_49 : decode method_4_code 49 = .ok (.aload_n 2, 1) := by decide +kernel
theorem d2_50 : decode method_4_code 50 = .ok (.iload_n 3, 1) := by decide +kernel
theorem d2_51 : decode method_4_code 51 = .ok (.iload 4, 2) := by decide +kernel
theorem d2_53 : decode method_4_code 53 = .ok (.iconst 2, 1) := by decide +kernel
theorem d2_54 : decode method_4_code 54 = .ok (.iadd, 1) := by decide +kernel
theorem d2_55 : decode method_4_code 55 = .ok (.invokestatic 19, 3) := by decide +kernel
theorem d2_58 : decode method_4_code 58 = .ok (.ifCond .eq 7, 3) := by decide +kernel
theorem d2_85 : decode method_4_code 85 = .ok (.iconst 1, 1) := by decide +kernel
theorem d2_86 : decode method_4_code 86 = .ok (.goto 4, 3) := by decide +kernel
theorem d2_61 : decode method_4_code 61 = .ok (.iconst 1, 1) := by decide +kernel
theorem d2_62 : decode method_4_code 62 = .ok (.goto 4, 3) := by decide +kernel
theorem d2_96 : decode method_4_code 96 = .ok (.iconst 1, 1) := by decide +kernel
theorem d2_97 : decode method_4_code 97 = .ok (.goto 4, 3) := by decide +kernel
theorem d3_0 : decode prog_76_method_16_code 0 = .ok (.aload_n 0, 1) := by decide +kernel
theorem d3_1 : decode prog_76_method_16_code 1 = .ok (.arraylength, 1) := by decide +kernel
theorem d3_2 : decode prog_76_method_16_code 2 = .ok (.istore_n 2, 1) := by decide +kernel
theorem d3_3 : decode prog_76_method_16_code 3 = .ok (.iload_n 2, 1) := by decide +kernel
theorem d3_4 : decode prog_76_method_16_code 4 = .ok (.newarray .int, 2) := by decide +kernel
theorem d3_6 : decode prog_76_method_16_code 6 = .ok (.astore_n 3, 1) := by decide +kernel
theorem d3_7 : decode prog_76_method_16_code 7 = .ok (.iload_n 2, 1) := by decide +kernel
theorem d3_8 : decode prog_76_method_16_code 8 = .ok (.iconst 1, 1) := by decide +kernel
theorem d3_9 : decode prog_76_method_16_code 9 = .ok (.isub, 1) := by decide +kernel
theorem d3_10 : decode prog_76_method_16_code 10 = .ok (.istore 4, 2) := by decide +kernel
theorem d3_12 : decode prog_76_method_16_code 12 = .ok (.iload 4, 2) := by decide +kernel
theorem d3_14 : decode prog_76_method_16_code 14 = .ok (.ifCond .lt 71, 3) := by decide +kernel
theorem d3_85 : decode prog_76_method_16_code 85 = .ok (.aload_n 3, 1) := by decide +kernel
theorem d3_86 : decode prog_76_method_16_code 86 = .ok (.areturn, 1) := by decide +kernel
theorem d3_17 : decode prog_76_method_16_code 17 = .ok (.iload 4, 2) := by decide +kernel
theorem d3_19 : decode prog_76_method_16_code 19 = .ok (.iconst 1, 1) := by decide +kernel
theorem d3_20 : decode prog_76_method_16_code 20 = .ok (.iadd, 1) := by decide +kernel
theorem d3_21 : decode prog_76_method_16_code 21 = .ok (.iload_n 2, 1) := by decide +kernel
theorem d3_22 : decode prog_76_method_16_code 22 = .ok (.if_icmp .ge 33, 3) := by decide +kernel
theorem d3_55 : decode prog_76_method_16_code 55 = .ok (.iconst 0, 1) := by decide +kernel
theorem d3_25 : decode prog_76_method_16_code 25 = .ok (.aload_n 0, 1) := by decide +kernel
theorem d3_26 : decode prog_76_method_16_code 26 = .ok (.iload 4, 2) := by decide +kernel
theorem d3_28 : decode prog_76_method_16_code 28 = .ok (.iconst 1, 1) := by decide +kernel
theorem d3_29 : decode prog_76_method_16_code 29 = .ok (.iadd, 1) := by decide +kernel
theorem d3_30 : decode prog_76_method_16_code 30 = .ok (.iaload, 1) := by decide +kernel
theorem d3_31 : decode prog_76_method_16_code 31 = .ok (.aload_n 0, 1) := by decide +kernel
theorem d3_32 : decode prog_76_method_16_code 32 = .ok (.iload 4, 2) := by decide +kernel
theorem d3_34 : decode prog_76_method_16_code 34 = .ok (.iaload, 1) := by decide +kernel
theorem d3_35 : decode prog_76_method_16_code 35 = .ok (.if_icmp .ne 20, 3) := by decide +kernel
theorem d3_38 : decode prog_76_method_16_code 38 = .ok (.aload_n 1, 1) := by decide +kernel
theorem d3_39 : decode prog_76_method_16_code 39 = .ok (.iload 4, 2) := by decide +kernel
theorem d3_41 : decode prog_76_method_16_code 41 = .ok (.iconst 1, 1) := by decide +kernel
theorem d3_42 : decode prog_76_method_16_code 42 = .ok (.iadd, 1) := by decide +kernel
theorem d3_43 : decode prog_76_method_16_code 43 = .ok (.baload, 1) := by decide +kernel
theorem d3_44 : decode prog_76_method_16_code 44 = .ok (.aload_n 1, 1) := by decide +kernel
theorem d3_45 : decode prog_76_method_16_code 45 = .ok (.iload 4, 2) := by decide +kernel
theorem d3_47 : decode prog_76_method_16_code 47 = .ok (.baload, 1) := by decide +kernel
theorem d3_48 : decode prog_76_method_16_code 48 = .ok (.if_icmp .ne 7, 3) := by decide +kernel
theorem d3_51 : decode prog_76_method_16_code 51 = .ok (.iconst 1, 1) := by decide +kernel
theorem d3_52 : decode prog_76_method_16_code 52 = .ok (.goto 4, 3) := by decide +kernel
theorem d3_56 : decode prog_76_method_16_code 56 = .ok (.istore 5, 2) := by decide +kernel
theorem d3_58 : decode prog_76_method_16_code 58 = .ok (.aload_n 3, 1) := by decide +kernel
theorem d3_59 : decode prog_76_method_16_code 59 = .ok (.iload 4, 2) := by decide +kernel
theorem d3_61 : decode prog_76_method_16_code 61 = .ok (.iload 5, 2) := by decide +kernel
theorem d3_63 : decode prog_76_method_16_code 63 = .ok (.ifCond .eq 14, 3) := by decide +kernel
theorem d3_77 : decode prog_76_method_16_code 77 = .ok (.iconst 1, 1) := by decide +kernel
theorem d3_66 : decode prog_76_method_16_code 66 = .ok (.aload_n 3, 1) := by decide +kernel
theorem d3_67 : decode prog_76_method_16_code 67 = .ok (.iload 4, 2) := by decide +kernel
theorem d3_69 : decode prog_76_method_16_code 69 = .ok (.iconst 1, 1) := by decide +kernel
theorem d3_70 : decode prog_76_method_16_code 70 = .ok (.iadd, 1) := by decide +kernel
theorem d3_71 : decode prog_76_method_16_code 71 = .ok (.iaload, 1) := by decide +kernel
theorem d3_72 : decode prog_76_method_16_code 72 = .ok (.iconst 1, 1) := by decide +kernel
theorem d3_73 : decode prog_76_method_16_code 73 = .ok (.iadd, 1) := by decide +kernel
theorem d3_74 : decode prog_76_method_16_code 74 = .ok (.goto 4, 3) := by decide +kernel
theorem d3_78 : decode prog_76_method_16_code 78 = .ok (.iastore, 1) := by decide +kernel
theorem d3_79 : decode prog_76_method_16_code 79 = .ok (.iinc 4 (-1), 3) := by decide +kernel
theorem d3_82 : decode prog_76_method_16_code 82 = .ok (.goto (-70), 3) := by decide +kernel
theorem pd0 : parseMethodDescriptor "([I[ZII)Z" = some ⟨[(.array .int), (.array .boolean), .int, .int], some .boolean⟩ := by decide +kernel
theorem pd1 : parseMethodDescriptor "([I[Z)[I" = some ⟨[(.array .int), (.array .boolean)], some (.array .int)⟩ := by decide +kernel
theorem pd2 : parseMethodDescriptor "([I[I[ZII)Z" = some ⟨[(.array .int), (.array .int), (.array .boolean), .int, .int], some .boolean⟩ := by decide +kernel
theorem pn0 : plainName "com/example/bellsplit/bellsplit/search/IntegerPartitionSearchRunsPinLaw" = true := by first | (simp [plainName, overriddenIn]; done) | decide +kernel
theorem pn1 : plainName "com/example/bellsplit/bellsplit/search/IntegerPartitionSearch" = true := by first | (simp [plainName, overriddenIn]; done) | decide +kernel
end Facts

theorem own_n (s : Int32) : ∃ k : Nat, ((s &&& 7) % 5).toInt = (k : Int) ∧ k ≤ 4 := by
  have h1 := c_mask s 7 3 (by decide) (by decide)
  have h2 := c_irem (s &&& 7) 5 5 (by decide)
  have h6 : ((2 ^ 3 : Nat) : Int) = 8 := by decide
  rw [h6] at h1
  refine ⟨((s &&& 7) % 5).toInt.toNat, ?_, ?_⟩ <;> omega
theorem own_ad {p : Int32} {k : Nat} (c : Int32) (d : Nat) (h : p.toInt = (k : Int)) (hc : c.toInt = (d : Int)) (hk : k + d < 1000) : (p + c).toInt = ((k + d : Nat) : Int) := by
  have h1 := c_iadd p c
  have h2 := rng32 (p + c)
  omega
def own_same (f g : Nat → Int32) (k i : Nat) : Bool := decide (i + 1 < k ∧ f i = f (i + 1) ∧ g i = g (i + 1))
def own_R (f g : Nat → Int32) (k i : Nat) : Int32 := if own_same f g k i then (if own_same f g k (i + 1) then (if own_same f g k (i + 2) then 4 else 3) else 2) else 1
theorem own_Rs (f g : Nat → Int32) {k i : Nat} (hk : k ≤ 4) (h : own_same f g k i = true) : own_R f g k (i + 1) + 1 = own_R f g k i := by
  have h3 : own_same f g k (i + 1 + 2) = false := decide_eq_false (fun q => by omega)
  unfold own_R
  rw [h, h3]
  show (if own_same f g k (i + 1) = true then (if own_same f g k (i + 2) = true then (3 : Int32) else 2) else 1) + 1 = if own_same f g k (i + 1) = true then (if own_same f g k (i + 2) = true then (4 : Int32) else 3) else 2
  by_cases h1 : own_same f g k (i + 1) = true
  · rw [if_pos h1, if_pos h1]
    by_cases h2 : own_same f g k (i + 2) = true
    · rw [if_pos h2, if_pos h2]; decide
    · rw [if_neg h2, if_neg h2]; decide
  · rw [if_neg h1, if_neg h1]; decide
theorem own_R1 (f g : Nat → Int32) {k i : Nat} (h : own_same f g k i = false) : own_R f g k i = 1 := by
  unfold own_R; rw [h]; rfl
theorem own_st {pa ba rr : Addr} {n i v : Int32} {s : Slot} (hs : One s) : storeLocals #[.val (.ref pa), .val (.ref ba), .val (.int n), .val (.ref rr), .val (.int i), s] 5 (.int v) = some #[.val (.ref pa), .val (.ref ba), .val (.int n), .val (.ref rr), .val (.int i), .val (.int v)] := by
  rcases hs with rfl | ⟨w, rfl, hw⟩
  · rfl
  · cases w <;> first | rfl | (simp [Value.category] at hw)
theorem own_dec {i : Int32} {m : Nat} (h : i.toInt = (m : Int) - 1) (h1 : 1 ≤ m) (h9 : m < 100) : (i + (-1)).toInt = ((m - 1 : Nat) : Int) - 1 := by
  have h2 := c_iadd i (-1)
  have h3 : ((-1 : Int32)).toInt = -1 := by decide
  rw [h3] at h2
  have h4 := rng32 (i + (-1))
  omega

set_option maxRecDepth 65536 in
set_option maxHeartbeats 40000000 in
theorem rmS (l : Launch) (Z : State) (a0 : Array Value) (hw : ∀ d ∈ tables_1, d.before a0 Z = true) (pa : Addr) (ba : Addr) (kk : Int32) (i : Int32) (k ii : Nat) (f g : Nat → Int32) (h0 : Heap) (n0 : Nat) (A_pa : IA Z h0 pa .int k (fun i => .int (f i))) (A_ba : IA Z h0 ba .boolean k (fun i => .int (g i))) (hk : kk.toInt = (k : Int)) (hk4 : k ≤ 4) (hi : i.toInt = (ii : Int)) (hi9 : ii < 100) :
    Con l Z (⟨"com/example/bellsplit/bellsplit/search/IntegerPartitionSearchRunsPinLaw", "same", "([I[ZII)Z"⟩ : MethodName) method_3_code 4 (some .boolean) ({ frames := 0, cells := 0, slots := 0, locals := 0 } : Room) #[(.ref pa), (.ref ba), (.int kk), (.int i)] h0 n0 (fun v h => v = some (.int (if own_same f g k ii then 1 else 0)) ∧ h0 = h) := by
  refine Con.of_body (plainFor_of_name pn0) #[.val (.ref pa), .val (.ref ba), .val (.int kk), .val (.int i)] (fun m => by first | (simp [entryFrame, mkF, argsToLocals, Value.category, maxLocals]; done) | rfl) ?_
  intro p e s m below meth c C
  have hi1 := own_ad (1 : Int32) 1 hi (by decide) (by omega)
  refine r_iload_n C d1_0 (pc' := 1) rfl rfl ?_
  refine r_iconst C d1_1 (pc' := 2) rfl (z := (1 : Int32)) rfl ?_
  refine r_iadd C d1_2 (pc' := 3) rfl (z := (i + (1 : Int32))) rfl ?_
  refine r_iload_n C d1_3 (pc' := 4) rfl rfl ?_
  refine r_icmpge C d1_4 (pcT := 33) (pcF := 7) (by decide) rfl ?_ ?_
  · intro c4
    rw [hi1, hk] at c4
    refine r_iconst C d1_33 (pc' := 34) rfl (z := (0 : Int32)) rfl ?_
    exact r_ireturnN (t := .boolean) (by simp) C d1_34 ⟨by rw [show own_same f g k ii = false from decide_eq_false (fun q => by omega)]; rfl, rfl⟩ (by decide) (by decide)
  · intro c4
    rw [hi1, hk] at c4
    refine r_aload_n C d1_7 (pc' := 8) rfl rfl rfl ?_
    refine r_iload_n C d1_8 (pc' := 9) rfl rfl ?_
    refine r_iaload C d1_9 (pc' := 10) rfl A_pa (jn := ii) hi (by omega) (x := (f ii)) rfl ?_
    refine r_aload_n C d1_10 (pc' := 11) rfl rfl rfl ?_
    refine r_iload_n C d1_11 (pc' := 12) rfl rfl ?_
    refine r_iconst C d1_12 (pc' := 13) rfl (z := (1 : Int32)) rfl ?_
    refine r_iadd C d1_13 (pc' := 14) rfl (z := (i + (1 : Int32))) rfl ?_
    refine r_iaload C d1_14 (pc' := 15) rfl A_pa (jn := (ii + 1)) hi1 (by omega) (x := (f (ii + 1))) rfl ?_
    refine r_icmpne C d1_15 (pcT := 33) (pcF := 18) (by decide) rfl ?_ ?_
    · intro c15
      refine r_iconst C d1_33 (pc' := 34) rfl (z := (0 : Int32)) rfl ?_
      exact r_ireturnN (t := .boolean) (by simp) C d1_34 ⟨by rw [show own_same f g k ii = false from decide_eq_false (fun q => c15 q.2.1)]; rfl, rfl⟩ (by decide) (by decide)
    · intro c15
      refine r_aload_n C d1_18 (pc' := 19) rfl rfl rfl ?_
      refine r_iload_n C d1_19 (pc' := 20) rfl rfl ?_
      refine r_zaload C d1_20 (pc' := 21) rfl A_ba (jn := ii) hi (by omega) (x := (g ii)) rfl ?_
      refine r_aload_n C d1_21 (pc' := 22) rfl rfl rfl ?_
      refine r_iload_n C d1_22 (pc' := 23) rfl rfl ?_
      refine r_iconst C d1_23 (pc' := 24) rfl (z := (1 : Int32)) rfl ?_
      refine r_iadd C d1_24 (pc' := 25) rfl (z := (i + (1 : Int32))) rfl ?_
      refine r_zaload C d1_25 (pc' := 26) rfl A_ba (jn := (ii + 1)) hi1 (by omega) (x := (g (ii + 1))) rfl ?_
      refine r_icmpne C d1_26 (pcT := 33) (pcF := 29) (by decide) rfl ?_ ?_
      · intro c26
        refine r_iconst C d1_33 (pc' := 34) rfl (z := (0 : Int32)) rfl ?_
        exact r_ireturnN (t := .boolean) (by simp) C d1_34 ⟨by rw [show own_same f g k ii = false from decide_eq_false (fun q => c26 q.2.2)]; rfl, rfl⟩ (by decide) (by decide)
      · intro c26
        refine r_iconst C d1_29 (pc' := 30) rfl (z := (1 : Int32)) rfl ?_
        refine r_goto C d1_30 (pc' := 34) (by decide) ?_
        exact r_ireturnN (t := .boolean) (by simp) C d1_34 ⟨by rw [show own_same f g k ii = true from decide_eq_true ⟨by omega, c15, c26⟩]; rfl, rfl⟩ (by decide) (by decide)
set_option maxRecDepth 65536 in
set_option maxHeartbeats 40000000 in
theorem rmC (l : Launch) (Z : State) (a0 : Array Value) (hw : ∀ d ∈ tables_1, d.before a0 Z = true) (rr : Addr) (pa : Addr) (ba : Addr) (kk : Int32) (i : Int32) (k ii : Nat) (f g r : Nat → Int32) (h0 : Heap) (n0 : Nat) (A_pa : IA Z h0 pa .int k (fun i => .int (f i))) (A_ba : IA Z h0 ba .boolean k (fun i => .int (g i))) (hk : kk.toInt = (k : Int)) (hk4 : k ≤ 4) (A_rr : IA Z h0 rr .int k (fun i => .int (r i))) (hr : ∀ j, j < k → r j = own_R f g k j) (hi : i.toInt = (ii : Int)) (hi9 : ii < 50) :
    Con l Z (⟨"com/example/bellsplit/bellsplit/search/IntegerPartitionSearchRunsPinLaw", "check", "([I[I[ZII)Z"⟩ : MethodName) method_4_code 9 (some .boolean) ({ frames := 1, cells := 0, slots := 0, locals := 15 } : Room) #[(.ref rr), (.ref pa), (.ref ba), (.int kk), (.int i)] h0 n0 (fun v h => v = some (.int 1) ∧ h0 = h) := by
  refine Con.of_body (plainFor_of_name pn0) #[.val (.ref rr), .val (.ref pa), .val (.ref ba), .val (.int kk), .val (.int i), .unset, .unset, .unset, .unset] (fun m => by first | (simp [entryFrame, mkF, argsToLocals, Value.category, maxLocals]; done) | rfl) ?_
  intro p e s m below meth c C
  refine r_iload C d2_0 (pc' := 2) rfl rfl ?_
  refine r_iload_n C d2_2 (pc' := 3) rfl rfl ?_
  refine r_icmplt C d2_3 (pcT := 8) (pcF := 6) (by decide) rfl ?_ ?_
  rotate_left
  · intro c3
    refine r_iconst C d2_6 (pc' := 7) rfl (z := (1 : Int32)) rfl ?_
    exact r_ireturnN (t := .boolean) (by simp) C d2_7 ⟨rfl, rfl⟩ (by decide) (by decide)
  · intro c3
    rw [hi, hk] at c3
    replace c3 : ii < k := by omega
    have hR := hr ii c3
    unfold own_R at hR
    refine r_aload_n C d2_8 (pc' := 9) rfl rfl rfl ?_
    refine r_aload_n C d2_9 (pc' := 10) rfl rfl rfl ?_
    refine r_iload_n C d2_10 (pc' := 11) rfl rfl ?_
    refine r_iload C d2_11 (pc' := 13) rfl rfl ?_
    refine r_callS (y := (⟨"com/example/bellsplit/bellsplit/search/IntegerPartitionSearchRunsPinLaw", "same", "([I[ZII)Z"⟩ : MethodName)) (as := [(.ref pa), (.ref ba), (.int kk), (.int i)]) (st := []) C (t10 hw) (t11 hw) (t8 hw) (t12 hw) (by decide) pd0 rfl rfl d2_13 (pc' := 16) rfl rfl (W := 0) (Nat.le_of_eq rfl) (rmS l Z a0 hw pa ba kk i k ii f g h0 n0 A_pa A_ba hk hk4 hi (by omega)) (by decide) (by decide) (by decide) (by decide) ?_
    rintro _ _ ⟨rfl, rfl⟩
    cases hs0 : own_same f g k ii
    · rw [hs0] at hR
      show Run _ _ _ _ _ _ _ _ _ _ _ _ _ _ _ h0 0 0 16 #[.val (.ref rr), .val (.ref pa), .val (.ref ba), .val (.int kk), .val (.int i), .unset, .unset, .unset, .unset] [(.int (0 : Int32))]
      refine r_istore C d2_16 (pc' := 18) rfl (ls' := #[.val (.ref rr), .val (.ref pa), .val (.ref ba), .val (.int kk), .val (.int i), .val (.int (0 : Int32)), .unset, .unset, .unset]) rfl ?_
      refine r_iload C d2_18 (pc' := 20) rfl rfl ?_
      refine r_ifeq C d2_20 (pcT := 40) (pcF := 23) (by decide) rfl ?_ ?_
      rotate_left
      · intro c20
        exact absurd rfl c20
      intro c20
      refine r_iconst C d2_40 (pc' := 41) rfl (z := (0 : Int32)) rfl ?_
      refine r_istore C d2_41 (pc' := 43) rfl (ls' := #[.val (.ref rr), .val (.ref pa), .val (.ref ba), .val (.int kk), .val (.int i), .val (.int (0 : Int32)), .val (.int (0 : Int32)), .unset, .unset]) rfl ?_
      refine r_iload C d2_43 (pc' := 45) rfl rfl ?_
      refine r_ifeq C d2_45 (pcT := 65) (pcF := 48) (by decide) rfl ?_ ?_
      rotate_left
      · intro c45
        exact absurd rfl c45
      intro c45
      refine r_iconst C d2_65 (pc' := 66) rfl (z := (0 : Int32)) rfl ?_
      refine r_istore C d2_66 (pc' := 68) rfl (ls' := #[.val (.ref rr), .val (.ref pa), .val (.ref ba), .val (.int kk), .val (.int i), .val (.int (0 : Int32)), .val (.int (0 : Int32)), .val (.int (0 : Int32)), .unset]) rfl ?_
      refine r_iconst C d2_68 (pc' := 69) rfl (z := (1 : Int32)) rfl ?_
      refine r_iload C d2_69 (pc' := 71) rfl rfl ?_
      refine r_ifeq C d2_71 (pcT := 78) (pcF := 74) (by decide) rfl ?_ ?_
      rotate_left
      · intro c71
        exact absurd rfl c71
      intro c71
      refine r_iconst C d2_78 (pc' := 79) rfl (z := (0 : Int32)) rfl ?_
      refine r_iadd C d2_79 (pc' := 80) rfl (z := ((1 : Int32) + (0 : Int32))) rfl ?_
      refine r_iload C d2_80 (pc' := 82) rfl rfl ?_
      refine r_ifeq C d2_82 (pcT := 89) (pcF := 85) (by decide) rfl ?_ ?_
      rotate_left
      · intro c82
        exact absurd rfl c82
      intro c82
      refine r_iconst C d2_89 (pc' := 90) rfl (z := (0 : Int32)) rfl ?_
      refine r_iadd C d2_90 (pc' := 91) rfl (z := (((1 : Int32) + (0 : Int32)) + (0 : Int32))) rfl ?_
      refine r_iload C d2_91 (pc' := 93) rfl rfl ?_
      refine r_ifeq C d2_93 (pcT := 100) (pcF := 96) (by decide) rfl ?_ ?_
      rotate_left
      · intro c93
        exact absurd rfl c93
      intro c93
      refine r_iconst C d2_100 (pc' := 101) rfl (z := (0 : Int32)) rfl ?_
      refine r_iadd C d2_101 (pc' := 102) rfl (z := ((((1 : Int32) + (0 : Int32)) + (0 : Int32)) + (0 : Int32))) rfl ?_
      refine r_istore C d2_102 (pc' := 104) rfl (ls' := #[.val (.ref rr), .val (.ref pa), .val (.ref ba), .val (.int kk), .val (.int i), .val (.int (0 : Int32)), .val (.int (0 : Int32)), .val (.int (0 : Int32)), .val (.int ((((1 : Int32) + (0 : Int32)) + (0 : Int32)) + (0 : Int32)))]) rfl ?_
      refine r_aload_n C d2_104 (pc' := 105) rfl rfl rfl ?_
      refine r_iload C d2_105 (pc' := 107) rfl rfl ?_
      refine r_iaload C d2_107 (pc' := 108) rfl A_rr (jn := ii) hi c3 (x := (r ii)) rfl ?_
      refine r_iload C d2_108 (pc' := 110) rfl rfl ?_
      refine r_icmpne C d2_110 (pcT := 117) (pcF := 113) (by decide) rfl ?_ ?_
      · intro c110
        exact absurd (hR.trans rfl) c110
      intro c110
      refine r_iconst C d2_113 (pc' := 114) rfl (z := (1 : Int32)) rfl ?_
      refine r_goto C d2_114 (pc' := 118) (by decide) ?_
      exact r_ireturnN (t := .boolean) (by simp) C d2_118 ⟨rfl, rfl⟩ (by decide) (by decide)
    · rw [hs0] at hR
      show Run _ _ _ _ _ _ _ _ _ _ _ _ _ _ _ h0 0 0 16 #[.val (.ref rr), .val (.ref pa), .val (.ref ba), .val (.int kk), .val (.int i), .unset, .unset, .unset, .unset] [(.int (1 : Int32))]
      refine r_istore C d2_16 (pc' := 18) rfl (ls' := #[.val (.ref rr), .val (.ref pa), .val (.ref ba), .val (.int kk), .val (.int i), .val (.int (1 : Int32)), .unset, .unset, .unset]) rfl ?_
      refine r_iload C d2_18 (pc' := 20) rfl rfl ?_
      refine r_ifeq C d2_20 (pcT := 40) (pcF := 23) (by decide) rfl ?_ ?_
      · intro c20
        exact absurd c20 (by decide)
      intro c20
      refine r_aload_n C d2_23 (pc' := 24) rfl rfl rfl ?_
      refine r_aload_n C d2_24 (pc' := 25) rfl rfl rfl ?_
      refine r_iload_n C d2_25 (pc' := 26) rfl rfl ?_
      refine r_iload C d2_26 (pc' := 28) rfl rfl ?_
      refine r_iconst C d2_28 (pc' := 29) rfl (z := (1 : Int32)) rfl ?_
      refine r_iadd C d2_29 (pc' := 30) rfl (z := (i + (1 : Int32))) rfl ?_
      refine r_callS (y := (⟨"com/example/bellsplit/bellsplit/search/IntegerPartitionSearchRunsPinLaw", "same", "([I[ZII)Z"⟩ : MethodName)) (as := [(.ref pa), (.ref ba), (.int kk), (.int (i + (1 : Int32)))]) (st := []) C (t10 hw) (t11 hw) (t8 hw) (t12 hw) (by decide) pd0 rfl rfl d2_30 (pc' := 33) rfl rfl (W := 0) (Nat.le_of_eq rfl) (rmS l Z a0 hw pa ba kk (i + 1) k (ii + 1) f g h0 n0 A_pa A_ba hk hk4 (own_ad (1 : Int32) 1 hi (by decide) (by omega)) (by omega)) (by decide) (by decide) (by decide) (by decide) ?_
      rintro _ _ ⟨rfl, rfl⟩
      cases hs1 : own_same f g k (ii + 1)
      · rw [hs1] at hR
        show Run _ _ _ _ _ _ _ _ _ _ _ _ _ _ _ h0 0 0 33 #[.val (.ref rr), .val (.ref pa), .val (.ref ba), .val (.int kk), .val (.int i), .val (.int (1 : Int32)), .unset, .unset, .unset] [(.int (0 : Int32))]
        refine r_ifeq C d2_33 (pcT := 40) (pcF := 36) (by decide) rfl ?_ ?_
        rotate_left
        · intro c33
          exact absurd rfl c33
        intro c33
        refine r_iconst C d2_40 (pc' := 41) rfl (z := (0 : Int32)) rfl ?_
        refine r_istore C d2_41 (pc' := 43) rfl (ls' := #[.val (.ref rr), .val (.ref pa), .val (.ref ba), .val (.int kk), .val (.int i), .val (.int (1 : Int32)), .val (.int (0 : Int32)), .unset, .unset]) rfl ?_
        refine r_iload C d2_43 (pc' := 45) rfl rfl ?_
        refine r_ifeq C d2_45 (pcT := 65) (pcF := 48) (by decide) rfl ?_ ?_
        rotate_left
        · intro c45
          exact absurd rfl c45
        intro c45
        refine r_iconst C d2_65 (pc' := 66) rfl (z := (0 : Int32)) rfl ?_
        refine r_istore C d2_66 (pc' := 68) rfl (ls' := #[.val (.ref rr), .val (.ref pa), .val (.ref ba), .val (.int kk), .val (.int i), .val (.int (1 : Int32)), .val (.int (0 : Int32)), .val (.int (0 : Int32)), .unset]) rfl ?_
        refine r_iconst C d2_68 (pc' := 69) rfl (z := (1 : Int32)) rfl ?_
        refine r_iload C d2_69 (pc' := 71) rfl rfl ?_
        refine r_ifeq C d2_71 (pcT := 78) (pcF := 74) (by decide) rfl ?_ ?_
        · intro c71
          exact absurd c71 (by decide)
        intro c71
        refine r_iconst C d2_74 (pc' := 75) rfl (z := (1 : Int32)) rfl ?_
        refine r_goto C d2_75 (pc' := 79) (by decide) ?_
        refine r_iadd C d2_79 (pc' := 80) rfl (z := ((1 : Int32) + (1 : Int32))) rfl ?_
        refine r_iload C d2_80 (pc' := 82) rfl rfl ?_
        refine r_ifeq C d2_82 (pcT := 89) (pcF := 85) (by decide) rfl ?_ ?_
        rotate_left
        · intro c82
          exact absurd rfl c82
        intro c82
        refine r_iconst C d2_89 (pc' := 90) rfl (z := (0 : Int32)) rfl ?_
        refine r_iadd C d2_90 (pc' := 91) rfl (z := (((1 : Int32) + (1 : Int32)) + (0 : Int32))) rfl ?_
        refine r_iload C d2_91 (pc' := 93) rfl rfl ?_
        refine r_ifeq C d2_93 (pcT := 100) (pcF := 96) (by decide) rfl ?_ ?_
        rotate_left
        · intro c93
          exact absurd rfl c93
        intro c93
        refine r_iconst C d2_100 (pc' := 101) rfl (z := (0 : Int32)) rfl ?_
        refine r_iadd C d2_101 (pc' := 102) rfl (z := ((((1 : Int32) + (1 : Int32)) + (0 : Int32)) + (0 : Int32))) rfl ?_
        refine r_istore C d2_102 (pc' := 104) rfl (ls' := #[.val (.ref rr), .val (.ref pa), .val (.ref ba), .val (.int kk), .val (.int i), .val (.int (1 : Int32)), .val (.int (0 : Int32)), .val (.int (0 : Int32)), .val (.int ((((1 : Int32) + (1 : Int32)) + (0 : Int32)) + (0 : Int32)))]) rfl ?_
        refine r_aload_n C d2_104 (pc' := 105) rfl rfl rfl ?_
        refine r_iload C d2_105 (pc' := 107) rfl rfl ?_
        refine r_iaload C d2_107 (pc' := 108) rfl A_rr (jn := ii) hi c3 (x := (r ii)) rfl ?_
        refine r_iload C d2_108 (pc' := 110) rfl rfl ?_
        refine r_icmpne C d2_110 (pcT := 117) (pcF := 113) (by decide) rfl ?_ ?_
        · intro c110
          exact absurd (hR.trans rfl) c110
        intro c110
        refine r_iconst C d2_113 (pc' := 114) rfl (z := (1 : Int32)) rfl ?_
        refine r_goto C d2_114 (pc' := 118) (by decide) ?_
        exact r_ireturnN (t := .boolean) (by simp) C d2_118 ⟨rfl, rfl⟩ (by decide) (by decide)
      · rw [hs1] at hR
        show Run _ _ _ _ _ _ _ _ _ _ _ _ _ _ _ h0 0 0 33 #[.val (.ref rr), .val (.ref pa), .val (.ref ba), .val (.int kk), .val (.int i), .val (.int (1 : Int32)), .unset, .unset, .unset] [(.int (1 : Int32))]
        refine r_ifeq C d2_33 (pcT := 40) (pcF := 36) (by decide) rfl ?_ ?_
        · intro c33
          exact absurd c33 (by decide)
        intro c33
        refine r_iconst C d2_36 (pc' := 37) rfl (z := (1 : Int32)) rfl ?_
        refine r_goto C d2_37 (pc' := 41) (by decide) ?_
        refine r_istore C d2_41 (pc' := 43) rfl (ls' := #[.val (.ref rr), .val (.ref pa), .val (.ref ba), .val (.int kk), .val (.int i), .val (.int (1 : Int32)), .val (.int (1 : Int32)), .unset, .unset]) rfl ?_
        refine r_iload C d2_43 (pc' := 45) rfl rfl ?_
        refine r_ifeq C d2_45 (pcT := 65) (pcF := 48) (by decide) rfl ?_ ?_
        · intro c45
          exact absurd c45 (by decide)
        intro c45
        refine r_aload_n C d2_48 (pc' := 49) rfl rfl rfl ?_
        refine r_aload_n C d2_49 (pc' := 50) rfl rfl rfl ?_
        refine r_iload_n C d2_50 (pc' := 51) rfl rfl ?_
        refine r_iload C d2_51 (pc' := 53) rfl rfl ?_
        refine r_iconst C d2_53 (pc' := 54) rfl (z := (2 : Int32)) rfl ?_
        refine r_iadd C d2_54 (pc' := 55) rfl (z := (i + (2 : Int32))) rfl ?_
        refine r_callS (y := (⟨"com/example/bellsplit/bellsplit/search/IntegerPartitionSearchRunsPinLaw", "same", "([I[ZII)Z"⟩ : MethodName)) (as := [(.ref pa), (.ref ba), (.int kk), (.int (i + (2 : Int32)))]) (st := []) C (t10 hw) (t11 hw) (t8 hw) (t12 hw) (by decide) pd0 rfl rfl d2_55 (pc' := 58) rfl rfl (W := 0) (Nat.le_of_eq rfl) (rmS l Z a0 hw pa ba kk (i + 2) k (ii + 2) f g h0 n0 A_pa A_ba hk hk4 (own_ad (2 : Int32) 2 hi (by decide) (by omega)) (by omega)) (by decide) (by decide) (by decide) (by decide) ?_
        rintro _ _ ⟨rfl, rfl⟩
        cases hs2 : own_same f g k (ii + 2)
        · rw [hs2] at hR
          show Run _ _ _ _ _ _ _ _ _ _ _ _ _ _ _ h0 0 0 58 #[.val (.ref rr), .val (.ref pa), .val (.ref ba), .val (.int kk), .val (.int i), .val (.int (1 : Int32)), .val (.int (1 : Int32)), .unset, .unset] [(.int (0 : Int32))]
          refine r_ifeq C d2_58 (pcT := 65) (pcF := 61) (by decide) rfl ?_ ?_
          rotate_left
          · intro c58
            exact absurd rfl c58
          intro c58
          refine r_iconst C d2_65 (pc' := 66) rfl (z := (0 : Int32)) rfl ?_
          refine r_istore C d2_66 (pc' := 68) rfl (ls' := #[.val (.ref rr), .val (.ref pa), .val (.ref ba), .val (.int kk), .val (.int i), .val (.int (1 : Int32)), .val (.int (1 : Int32)), .val (.int (0 : Int32)), .unset]) rfl ?_
          refine r_iconst C d2_68 (pc' := 69) rfl (z := (1 : Int32)) rfl ?_
          refine r_iload C d2_69 (pc' := 71) rfl rfl ?_
          refine r_ifeq C d2_71 (pcT := 78) (pcF := 74) (by decide) rfl ?_ ?_
          · intro c71
            exact absurd c71 (by decide)
          intro c71
          refine r_iconst C d2_74 (pc' := 75) rfl (z := (1 : Int32)) rfl ?_
          refine r_goto C d2_75 (pc' := 79) (by decide) ?_
          refine r_iadd C d2_79 (pc' := 80) rfl (z := ((1 : Int32) + (1 : Int32))) rfl ?_
          refine r_iload C d2_80 (pc' := 82) rfl rfl ?_
          refine r_ifeq C d2_82 (pcT := 89) (pcF := 85) (by decide) rfl ?_ ?_
          · intro c82
            exact absurd c82 (by decide)
          intro c82
          refine r_iconst C d2_85 (pc' := 86) rfl (z := (1 : Int32)) rfl ?_
          refine r_goto C d2_86 (pc' := 90) (by decide) ?_
          refine r_iadd C d2_90 (pc' := 91) rfl (z := (((1 : Int32) + (1 : Int32)) + (1 : Int32))) rfl ?_
          refine r_iload C d2_91 (pc' := 93) rfl rfl ?_
          refine r_ifeq C d2_93 (pcT := 100) (pcF := 96) (by decide) rfl ?_ ?_
          rotate_left
          · intro c93
            exact absurd rfl c93
          intro c93
          refine r_iconst C d2_100 (pc' := 101) rfl (z := (0 : Int32)) rfl ?_
          refine r_iadd C d2_101 (pc' := 102) rfl (z := ((((1 : Int32) + (1 : Int32)) + (1 : Int32)) + (0 : Int32))) rfl ?_
          refine r_istore C d2_102 (pc' := 104) rfl (ls' := #[.val (.ref rr), .val (.ref pa), .val (.ref ba), .val (.int kk), .val (.int i), .val (.int (1 : Int32)), .val (.int (1 : Int32)), .val (.int (0 : Int32)), .val (.int ((((1 : Int32) + (1 : Int32)) + (1 : Int32)) + (0 : Int32)))]) rfl ?_
          refine r_aload_n C d2_104 (pc' := 105) rfl rfl rfl ?_
          refine r_iload C d2_105 (pc' := 107) rfl rfl ?_
          refine r_iaload C d2_107 (pc' := 108) rfl A_rr (jn := ii) hi c3 (x := (r ii)) rfl ?_
          refine r_iload C d2_108 (pc' := 110) rfl rfl ?_
          refine r_icmpne C d2_110 (pcT := 117) (pcF := 113) (by decide) rfl ?_ ?_
          · intro c110
            exact absurd (hR.trans rfl) c110
          intro c110
          refine r_iconst C d2_113 (pc' := 114) rfl (z := (1 : Int32)) rfl ?_
          refine r_goto C d2_114 (pc' := 118) (by decide) ?_
          exact r_ireturnN (t := .boolean) (by simp) C d2_118 ⟨rfl, rfl⟩ (by decide) (by decide)
        · rw [hs2] at hR
          show Run _ _ _ _ _ _ _ _ _ _ _ _ _ _ _ h0 0 0 58 #[.val (.ref rr), .val (.ref pa), .val (.ref ba), .val (.int kk), .val (.int i), .val (.int (1 : Int32)), .val (.int (1 : Int32)), .unset, .unset] [(.int (1 : Int32))]
          refine r_ifeq C d2_58 (pcT := 65) (pcF := 61) (by decide) rfl ?_ ?_
          · intro c58
            exact absurd c58 (by decide)
          intro c58
          refine r_iconst C d2_61 (pc' := 62) rfl (z := (1 : Int32)) rfl ?_
          refine r_goto C d2_62 (pc' := 66) (by decide) ?_
          refine r_istore C d2_66 (pc' := 68) rfl (ls' := #[.val (.ref rr), .val (.ref pa), .val (.ref ba), .val (.int kk), .val (.int i), .val (.int (1 : Int32)), .val (.int (1 : Int32)), .val (.int (1 : Int32)), .unset]) rfl ?_
          refine r_iconst C d2_68 (pc' := 69) rfl (z := (1 : Int32)) rfl ?_
          refine r_iload C d2_69 (pc' := 71) rfl rfl ?_
          refine r_ifeq C d2_71 (pcT := 78) (pcF := 74) (by decide) rfl ?_ ?_
          · intro c71
            exact absurd c71 (by decide)
          intro c71
          refine r_iconst C d2_74 (pc' := 75) rfl (z := (1 : Int32)) rfl ?_
          refine r_goto C d2_75 (pc' := 79) (by decide) ?_
          refine r_iadd C d2_79 (pc' := 80) rfl (z := ((1 : Int32) + (1 : Int32))) rfl ?_
          refine r_iload C d2_80 (pc' := 82) rfl rfl ?_
          refine r_ifeq C d2_82 (pcT := 89) (pcF := 85) (by decide) rfl ?_ ?_
          · intro c82
            exact absurd c82 (by decide)
          intro c82
          refine r_iconst C d2_85 (pc' := 86) rfl (z := (1 : Int32)) rfl ?_
          refine r_goto C d2_86 (pc' := 90) (by decide) ?_
          refine r_iadd C d2_90 (pc' := 91) rfl (z := (((1 : Int32) + (1 : Int32)) + (1 : Int32))) rfl ?_
          refine r_iload C d2_91 (pc' := 93) rfl rfl ?_
          refine r_ifeq C d2_93 (pcT := 100) (pcF := 96) (by decide) rfl ?_ ?_
          · intro c93
            exact absurd c93 (by decide)
          intro c93
          refine r_iconst C d2_96 (pc' := 97) rfl (z := (1 : Int32)) rfl ?_
          refine r_goto C d2_97 (pc' := 101) (by decide) ?_
          refine r_iadd C d2_101 (pc' := 102) rfl (z := ((((1 : Int32) + (1 : Int32)) + (1 : Int32)) + (1 : Int32))) rfl ?_
          refine r_istore C d2_102 (pc' := 104) rfl (ls' := #[.val (.ref rr), .val (.ref pa), .val (.ref ba), .val (.int kk), .val (.int i), .val (.int (1 : Int32)), .val (.int (1 : Int32)), .val (.int (1 : Int32)), .val (.int ((((1 : Int32) + (1 : Int32)) + (1 : Int32)) + (1 : Int32)))]) rfl ?_
          refine r_aload_n C d2_104 (pc' := 105) rfl rfl rfl ?_
          refine r_iload C d2_105 (pc' := 107) rfl rfl ?_
          refine r_iaload C d2_107 (pc' := 108) rfl A_rr (jn := ii) hi c3 (x := (r ii)) rfl ?_
          refine r_iload C d2_108 (pc' := 110) rfl rfl ?_
          refine r_icmpne C d2_110 (pcT := 117) (pcF := 113) (by decide) rfl ?_ ?_
          · intro c110
            exact absurd (hR.trans rfl) c110
          intro c110
          refine r_iconst C d2_113 (pc' := 114) rfl (z := (1 : Int32)) rfl ?_
          refine r_goto C d2_114 (pc' := 118) (by decide) ?_
          exact r_ireturnN (t := .boolean) (by simp) C d2_118 ⟨rfl, rfl⟩ (by decide) (by decide)
set_option maxRecDepth 65536 in
set_option maxHeartbeats 40000000 in
theorem rmR (l : Launch) (Z : State) (a0 : Array Value) (hw : ∀ d ∈ tables_1, d.before a0 Z = true) (pa : Addr) (ba : Addr) (kk : Int32) (k : Nat) (f g : Nat → Int32) (h0 : Heap) (n0 : Nat) (Z0 : n0 ≤ h0.size) (A_pa : IA Z h0 pa .int k (fun i => .int (f i))) (A_ba : IA Z h0 ba .boolean k (fun i => .int (g i))) (hk : kk.toInt = (k : Int)) (hk4 : k ≤ 4) :
    Con l Z (⟨"com/example/bellsplit/bellsplit/search/IntegerPartitionSearch", "runs", "([I[Z)[I"⟩ : MethodName) prog_76_method_16_code 6 (some (.array .int)) ({ frames := 0, cells := 1, slots := 4, locals := 0 } : Room) #[(.ref pa), (.ref ba)] h0 n0 (fun v h => ∃ a : Addr, v = some (.ref a) ∧ h0.size ≤ a ∧ Keep h0 h [] ∧ ∃ r : Nat → Int32, IA Z h a .int k (fun i => .int (r i)) ∧ ∀ j, j < k → r j = own_R f g k j) := by
  refine Con.of_body (plainFor_of_name pn1) #[.val (.ref pa), .val (.ref ba), .unset, .unset, .unset, .unset] (fun m => by first | (simp [entryFrame, mkF, argsToLocals, Value.category, maxLocals]; done) | rfl) ?_
  intro p e s m below meth c C
  refine r_aload_n C d3_0 (pc' := 1) rfl rfl rfl ?_
  refine r_arraylength C d3_1 (pc' := 2) rfl A_pa (z := kk) hk ?_
  refine r_istore_n C d3_2 (pc' := 3) rfl (ls' := #[.val (.ref pa), .val (.ref ba), .val (.int kk), .unset, .unset, .unset]) rfl ?_
  refine r_iload_n C d3_3 (pc' := 4) rfl rfl ?_
  refine r_newarray (ty := .int) (dv := (.int (0 : Int32))) rfl (n := k) (cap := 4) C (t0 hw) rfl d3_4 (pc' := 6) rfl hk hk4 (by decide) (by decide) (by decide) ?_
  intro rr h1 ha_rr K1 A_rr
  have ne_pa_rr : pa ≠ rr := Nat.ne_of_lt (Nat.lt_of_lt_of_le A_pa.lt (Nat.le_of_eq (Eq.symm ha_rr)))
  have ne_rr_pa : rr ≠ pa := fun q => ne_pa_rr q.symm
  have ne_ba_rr : ba ≠ rr := Nat.ne_of_lt (Nat.lt_of_lt_of_le A_ba.lt (Nat.le_of_eq (Eq.symm ha_rr)))
  have ne_rr_ba : rr ≠ ba := fun q => ne_ba_rr q.symm
  have ge_rr : n0 ≤ rr := Nat.le_trans Z0 (Nat.le_of_eq (Eq.symm ha_rr))
  have A_pa := A_pa.keep K1 nin0
  have A_ba := A_ba.keep K1 nin0
  have Z0 := Nat.le_trans Z0 K1.1
  have A_rr : IA Z h1 rr .int k (fun i => .int ((fun _ => (0 : Int32)) i)) := A_rr
  have hgr : h0.size ≤ rr := by omega
  have hs1 := c_isub kk 1
  have e1 : ((1 : Int32)).toInt = 1 := by decide
  rw [e1] at hs1
  have hr1 := rng32 (kk - 1)
  refine r_astore_n C d3_6 (pc' := 7) rfl rfl (ls' := #[.val (.ref pa), .val (.ref ba), .val (.int kk), .val (.ref rr), .unset, .unset]) rfl ?_
  refine r_iload_n C d3_7 (pc' := 8) rfl rfl ?_
  refine r_iconst C d3_8 (pc' := 9) rfl (z := (1 : Int32)) rfl ?_
  refine r_isub C d3_9 (pc' := 10) rfl (z := (kk - (1 : Int32))) rfl ?_
  refine r_istore C d3_10 (pc' := 12) rfl (ls' := #[.val (.ref pa), .val (.ref ba), .val (.int kk), .val (.ref rr), .val (.int (kk - (1 : Int32))), .unset]) rfl ?_
  refine loop (α := Heap × (Nat → Int32) × Int32 × Nat × Slot) (fun jq => jq.2.2.2.1) (fun jq => jq.2.2.1.toInt = (jq.2.2.2.1 : Int) - 1 ∧ jq.2.2.2.1 ≤ k ∧ n0 ≤ jq.1.size ∧ Keep h0 jq.1 [] ∧ IA Z jq.1 pa .int k (fun i => .int (f i)) ∧ IA Z jq.1 ba .boolean k (fun i => .int (g i)) ∧ IA Z jq.1 rr .int k (fun i => .int (jq.2.1 i)) ∧ (∀ j, jq.2.2.2.1 ≤ j → j < k → jq.2.1 j = own_R f g k j) ∧ One jq.2.2.2.2) (fun jq => jq.1) 1 4 12 (fun jq => #[.val (.ref pa), .val (.ref ba), .val (.int kk), .val (.ref rr), .val (.int jq.2.2.1), jq.2.2.2.2]) (fun jq => []) ?_ ?_
  rotate_left
  · intro LP
    exact LP (h1, _, kk - 1, k, .unset) ⟨by dsimp only; omega, Nat.le_refl _, Z0, K1, A_pa, A_ba, A_rr, fun j h1 h2 => by dsimp only at h1; omega, One.u⟩
  rintro ⟨h2, r, i, m, s5⟩ ⟨hi, hm, Z0, KK, A_pa, A_ba, A_rr, hr, hs5⟩ IH
  dsimp only at hi hm Z0 KK A_pa A_ba A_rr hr hs5 IH ⊢
  show Run _ _ _ _ _ _ _ _ _ _ _ _ _ _ _ h2 1 4 12 #[.val (.ref pa), .val (.ref ba), .val (.int kk), .val (.ref rr), .val (.int i), s5] []
  refine r_iload C d3_12 (pc' := 14) rfl rfl ?_
  refine r_iflt C d3_14 (pcT := 85) (pcF := 17) (by decide) rfl ?_ ?_
  · intro c14
    replace c14 : i.toInt < 0 := c14
    have hm0 : m = 0 := by omega
    refine r_aload_n C d3_85 (pc' := 86) rfl rfl rfl ?_
    exact r_areturn (t := (.array .int)) rfl rfl C d3_86 ⟨rr, rfl, hgr, KK, r, A_rr, fun j hj => hr j (by omega) hj⟩ (by decide) (by decide)
  · intro c14
    replace c14 : (0 : Int) ≤ i.toInt := c14
    obtain ⟨ii, hii⟩ : ∃ z : Nat, m = z + 1 := ⟨m - 1, by omega⟩
    have hi' : i.toInt = (ii : Int) := by omega
    have hi1 := own_ad (1 : Int32) 1 hi' (by decide) (by omega)
    refine join (α := Int32) (fun jq => jq = if own_same f g k ii then 1 else 0) (fun jq => h2) 1 4 56 (fun jq => #[.val (.ref pa), .val (.ref ba), .val (.int kk), .val (.ref rr), .val (.int i), s5]) (fun jq => [(.int jq)]) ?_ ?_
    rotate_left
    · intro J56
      refine r_iload C d3_17 (pc' := 19) rfl rfl ?_
      refine r_iconst C d3_19 (pc' := 20) rfl (z := (1 : Int32)) rfl ?_
      refine r_iadd C d3_20 (pc' := 21) rfl (z := (i + (1 : Int32))) rfl ?_
      refine r_iload_n C d3_21 (pc' := 22) rfl rfl ?_
      refine r_icmpge C d3_22 (pcT := 55) (pcF := 25) (by decide) rfl ?_ ?_
      · intro c22
        rw [hi1, hk] at c22
        refine r_iconst C d3_55 (pc' := 56) rfl (z := (0 : Int32)) rfl ?_
        exact J56 _ (by rw [show own_same f g k ii = false from decide_eq_false (fun q => by omega)]; rfl)
      · intro c22
        rw [hi1, hk] at c22
        refine r_aload_n C d3_25 (pc' := 26) rfl rfl rfl ?_
        refine r_iload C d3_26 (pc' := 28) rfl rfl ?_
        refine r_iconst C d3_28 (pc' := 29) rfl (z := (1 : Int32)) rfl ?_
        refine r_iadd C d3_29 (pc' := 30) rfl (z := (i + (1 : Int32))) rfl ?_
        refine r_iaload C d3_30 (pc' := 31) rfl A_pa (jn := (ii + 1)) hi1 (by omega) (x := (f (ii + 1))) rfl ?_
        refine r_aload_n C d3_31 (pc' := 32) rfl rfl rfl ?_
        refine r_iload C d3_32 (pc' := 34) rfl rfl ?_
        refine r_iaload C d3_34 (pc' := 35) rfl A_pa (jn := ii) hi' (by omega) (x := (f ii)) rfl ?_
        refine r_icmpne C d3_35 (pcT := 55) (pcF := 38) (by decide) rfl ?_ ?_
        · intro c35
          refine r_iconst C d3_55 (pc' := 56) rfl (z := (0 : Int32)) rfl ?_
          exact J56 _ (by rw [show own_same f g k ii = false from decide_eq_false (fun q => c35 q.2.1.symm)]; rfl)
        · intro c35
          refine r_aload_n C d3_38 (pc' := 39) rfl rfl rfl ?_
          refine r_iload C d3_39 (pc' := 41) rfl rfl ?_
          refine r_iconst C d3_41 (pc' := 42) rfl (z := (1 : Int32)) rfl ?_
          refine r_iadd C d3_42 (pc' := 43) rfl (z := (i + (1 : Int32))) rfl ?_
          refine r_zaload C d3_43 (pc' := 44) rfl A_ba (jn := (ii + 1)) hi1 (by omega) (x := (g (ii + 1))) rfl ?_
          refine r_aload_n C d3_44 (pc' := 45) rfl rfl rfl ?_
          refine r_iload C d3_45 (pc' := 47) rfl rfl ?_
          refine r_zaload C d3_47 (pc' := 48) rfl A_ba (jn := ii) hi' (by omega) (x := (g ii)) rfl ?_
          refine r_icmpne C d3_48 (pcT := 55) (pcF := 51) (by decide) rfl ?_ ?_
          · intro c48
            refine r_iconst C d3_55 (pc' := 56) rfl (z := (0 : Int32)) rfl ?_
            exact J56 _ (by rw [show own_same f g k ii = false from decide_eq_false (fun q => c48 q.2.2.symm)]; rfl)
          · intro c48
            refine r_iconst C d3_51 (pc' := 52) rfl (z := (1 : Int32)) rfl ?_
            refine r_goto C d3_52 (pc' := 56) (by decide) ?_
            exact J56 _ (by rw [show own_same f g k ii = true from decide_eq_true ⟨by omega, c35.symm, c48.symm⟩]; rfl)
    intro sv hsv
    show Run _ _ _ _ _ _ _ _ _ _ _ _ _ _ _ h2 1 4 56 #[.val (.ref pa), .val (.ref ba), .val (.int kk), .val (.ref rr), .val (.int i), s5] [(.int sv)]
    refine r_istore C d3_56 (pc' := 58) rfl (ls' := #[.val (.ref pa), .val (.ref ba), .val (.int kk), .val (.ref rr), .val (.int i), .val (.int sv)]) (own_st hs5) ?_
    refine join (α := Int32) (fun jq => jq = own_R f g k ii) (fun jq => h2) 1 4 78 (fun jq => #[.val (.ref pa), .val (.ref ba), .val (.int kk), .val (.ref rr), .val (.int i), .val (.int sv)]) (fun jq => [(.int jq), (.int i), (.ref rr)]) ?_ ?_
    rotate_left
    · intro J78
      refine r_aload_n C d3_58 (pc' := 59) rfl rfl rfl ?_
      refine r_iload C d3_59 (pc' := 61) rfl rfl ?_
      refine r_iload C d3_61 (pc' := 63) rfl rfl ?_
      refine r_ifeq C d3_63 (pcT := 77) (pcF := 66) (by decide) rfl ?_ ?_
      · intro c63
        have hs : own_same f g k ii = false := by
          cases q : own_same f g k ii
          · rfl
          · rw [q] at hsv; rw [hsv] at c63; exact absurd c63 (by decide)
        refine r_iconst C d3_77 (pc' := 78) rfl (z := (1 : Int32)) rfl ?_
        exact J78 _ (own_R1 f g hs).symm
      · intro c63
        have hs : own_same f g k ii = true := by
          cases q : own_same f g k ii
          · rw [q] at hsv; exact absurd hsv c63
          · rfl
        have hlt := (of_decide_eq_true hs).1
        refine r_aload_n C d3_66 (pc' := 67) rfl rfl rfl ?_
        refine r_iload C d3_67 (pc' := 69) rfl rfl ?_
        refine r_iconst C d3_69 (pc' := 70) rfl (z := (1 : Int32)) rfl ?_
        refine r_iadd C d3_70 (pc' := 71) rfl (z := (i + (1 : Int32))) rfl ?_
        refine r_iaload C d3_71 (pc' := 72) rfl A_rr (jn := (ii + 1)) hi1 hlt (x := (own_R f g k (ii + 1))) (hr _ (by omega) hlt) ?_
        refine r_iconst C d3_72 (pc' := 73) rfl (z := (1 : Int32)) rfl ?_
        refine r_iadd C d3_73 (pc' := 74) rfl (z := ((own_R f g k (ii + 1)) + (1 : Int32))) rfl ?_
        refine r_goto C d3_74 (pc' := 78) (by decide) ?_
        exact J78 _ (own_Rs f g hk4 hs)
    intro rv hrv
    show Run _ _ _ _ _ _ _ _ _ _ _ _ _ _ _ h2 1 4 78 #[.val (.ref pa), .val (.ref ba), .val (.int kk), .val (.ref rr), .val (.int i), .val (.int sv)] [(.int rv), (.int i), (.ref rr)]
    refine r_iastore C d3_78 (pc' := 79) rfl A_rr (jn := ii) hi' (by omega) ge_rr ?_
    intro h3 K3 A_rr
    have A_pa := A_pa.keep K3 (ninS ne_pa_rr nin0)
    have A_ba := A_ba.keep K3 (ninS ne_ba_rr nin0)
    have Z0 := Nat.le_trans Z0 K3.1
    have A_rr : IA Z h3 rr .int k (fun i => .int ((fun i => if i = ii then rv else r i) i)) := A_rr
    refine r_iinc C d3_79 (pc' := 82) rfl rfl (z := (i + ((-1) : Int32))) rfl (ls' := #[.val (.ref pa), .val (.ref ba), .val (.int kk), .val (.ref rr), .val (.int (i + ((-1) : Int32))), .val (.int sv)]) rfl ?_
    refine r_goto C d3_82 (pc' := 12) (by decide) ?_
    exact IH (h3, (fun i => if i = ii then rv else r i), i + (-1), ii, _) ⟨(own_dec hi (by omega) (by omega)).trans (by dsimp only; omega), by dsimp only; omega, Z0, KK.trans K3 (allS (Or.inr hgr) all0), A_pa, A_ba, A_rr, fun j h1 h2 => by
        by_cases q : j = ii
        · subst q
          show (if j = j then rv else r j) = _
          exact (if_pos rfl).trans hrv
        · exact (if_neg q).trans (hr j (by dsimp only at h1; omega) h2), One.val rfl⟩ (by dsimp only; omega)
set_option maxRecDepth 65536 in
set_option maxHeartbeats 40000000 in
theorem rm0 (l : Launch) (Z : State) (a0 : Array Value) (hw : ∀ d ∈ tables_1, d.before a0 Z = true) (p0 : Int32) (p1 : Int32) (p2 : Int32) (p3 : Int32) (fl : Int32) (h0 : Heap) (n0 : Nat) (Z0 : n0 ≤ h0.size) :
    Con l Z x code maxLocals ret room_1 #[(.int p0), (.int p1), (.int p2), (.int p3), (.int fl)] h0 n0 (fun v h => v = some (.int 1)) := by
  refine Con.of_body (plainFor_of_name pn0) #[.val (.int p0), .val (.int p1), .val (.int p2), .val (.int p3), .val (.int fl), .unset, .unset, .unset, .unset, .unset, .unset, .unset, .unset, .unset, .unset, .unset, .unset] (fun m => by first | (simp [entryFrame, mkF, argsToLocals, Value.category, maxLocals]; done) | rfl) ?_
  intro p e s m below meth c C
  obtain ⟨k, hk, hk4⟩ := own_n fl
  obtain ⟨kk, ekk⟩ : ∃ q : Int32, (fl &&& 7) % 5 = q := ⟨_, rfl⟩
  rw [ekk] at hk
  refine r_iload C at_0 (pc' := 2) rfl rfl ?_
  refine r_bipush C at_2 (pc' := 4) rfl (z := (7 : Int32)) rfl ?_
  refine r_iand C at_4 (pc' := 5) rfl (z := (fl &&& (7 : Int32))) rfl ?_
  refine r_iconst C at_5 (pc' := 6) rfl (z := (5 : Int32)) rfl ?_
  refine r_irem C at_6 (pc' := 7) rfl (by decide) (z := kk) ekk ?_
  refine r_istore C at_7 (pc' := 9) rfl (ls' := #[.val (.int p0), .val (.int p1), .val (.int p2), .val (.int p3), .val (.int fl), .val (.int kk), .unset, .unset, .unset, .unset, .unset, .unset, .unset, .unset, .unset, .unset, .unset]) rfl ?_
  refine join (α := Int32) (fun jq => True) (fun jq => h0) 0 0 23 (fun jq => #[.val (.int p0), .val (.int p1), .val (.int p2), .val (.int p3), .val (.int fl), .val (.int kk), .unset, .unset, .unset, .unset, .unset, .unset, .unset, .unset, .unset, .unset, .unset]) (fun jq => [(.int jq)]) ?_ ?_
  rotate_left
  · intro J23
    refine r_iload C at_9 (pc' := 11) rfl rfl ?_
    refine r_iconst C at_11 (pc' := 12) rfl (z := (3 : Int32)) rfl ?_
    refine r_ishr C at_12 (pc' := 13) rfl (z := (fl >>> ((3 : Int32) &&& 31))) rfl ?_
    refine r_iconst C at_13 (pc' := 14) rfl (z := (1 : Int32)) rfl ?_
    refine r_iand C at_14 (pc' := 15) rfl (z := ((fl >>> ((3 : Int32) &&& 31)) &&& (1 : Int32))) rfl ?_
    refine r_ifeq C at_15 (pcT := 22) (pcF := 18) (by decide) rfl ?_ ?_
    · intro cc
      refine r_iconst C at_22 (pc' := 23) rfl (z := (0 : Int32)) rfl ?_
      exact J23 _ trivial
    · intro cc
      refine r_iconst C at_18 (pc' := 19) rfl (z := (1 : Int32)) rfl ?_
      refine r_goto C at_19 (pc' := 23) (by decide) ?_
      exact J23 _ trivial
  intro b0 _
  show Run _ _ _ _ _ _ _ _ _ _ _ _ _ _ _ h0 0 0 23 #[.val (.int p0), .val (.int p1), .val (.int p2), .val (.int p3), .val (.int fl), .val (.int kk), .unset, .unset, .unset, .unset, .unset, .unset, .unset, .unset, .unset, .unset, .unset] [(.int b0)]
  refine r_istore C at_23 (pc' := 25) rfl (ls' := #[.val (.int p0), .val (.int p1), .val (.int p2), .val (.int p3), .val (.int fl), .val (.int kk), .val (.int b0), .unset, .unset, .unset, .unset, .unset, .unset, .unset, .unset, .unset, .unset]) rfl ?_
  refine join (α := Int32) (fun jq => True) (fun jq => h0) 0 0 39 (fun jq => #[.val (.int p0), .val (.int p1), .val (.int p2), .val (.int p3), .val (.int fl), .val (.int kk), .val (.int b0), .unset, .unset, .unset, .unset, .unset, .unset, .unset, .unset, .unset, .unset]) (fun jq => [(.int jq)]) ?_ ?_
  rotate_left
  · intro J39
    refine r_iload C at_25 (pc' := 27) rfl rfl ?_
    refine r_iconst C at_27 (pc' := 28) rfl (z := (4 : Int32)) rfl ?_
    refine r_ishr C at_28 (pc' := 29) rfl (z := (fl >>> ((4 : Int32) &&& 31))) rfl ?_
    refine r_iconst C at_29 (pc' := 30) rfl (z := (1 : Int32)) rfl ?_
    refine r_iand C at_30 (pc' := 31) rfl (z := ((fl >>> ((4 : Int32) &&& 31)) &&& (1 : Int32))) rfl ?_
    refine r_ifeq C at_31 (pcT := 38) (pcF := 34) (by decide) rfl ?_ ?_
    · intro cc
      refine r_iconst C at_38 (pc' := 39) rfl (z := (0 : Int32)) rfl ?_
      exact J39 _ trivial
    · intro cc
      refine r_iconst C at_34 (pc' := 35) rfl (z := (1 : Int32)) rfl ?_
      refine r_goto C at_35 (pc' := 39) (by decide) ?_
      exact J39 _ trivial
  intro b1 _
  show Run _ _ _ _ _ _ _ _ _ _ _ _ _ _ _ h0 0 0 39 #[.val (.int p0), .val (.int p1), .val (.int p2), .val (.int p3), .val (.int fl), .val (.int kk), .val (.int b0), .unset, .unset, .unset, .unset, .unset, .unset, .unset, .unset, .unset, .unset] [(.int b1)]
  refine r_istore C at_39 (pc' := 41) rfl (ls' := #[.val (.int p0), .val (.int p1), .val (.int p2), .val (.int p3), .val (.int fl), .val (.int kk), .val (.int b0), .val (.int b1), .unset, .unset, .unset, .unset, .unset, .unset, .unset, .unset, .unset]) rfl ?_
  refine join (α := Int32) (fun jq => True) (fun jq => h0) 0 0 55 (fun jq => #[.val (.int p0), .val (.int p1), .val (.int p2), .val (.int p3), .val (.int fl), .val (.int kk), .val (.int b0), .val (.int b1), .unset, .unset, .unset, .unset, .unset, .unset, .unset, .unset, .unset]) (fun jq => [(.int jq)]) ?_ ?_
  rotate_left
  · intro J55
    refine r_iload C at_41 (pc' := 43) rfl rfl ?_
    refine r_iconst C at_43 (pc' := 44) rfl (z := (5 : Int32)) rfl ?_
    refine r_ishr C at_44 (pc' := 45) rfl (z := (fl >>> ((5 : Int32) &&& 31))) rfl ?_
    refine r_iconst C at_45 (pc' := 46) rfl (z := (1 : Int32)) rfl ?_
    refine r_iand C at_46 (pc' := 47) rfl (z := ((fl >>> ((5 : Int32) &&& 31)) &&& (1 : Int32))) rfl ?_
    refine r_ifeq C at_47 (pcT := 54) (pcF := 50) (by decide) rfl ?_ ?_
    · intro cc
      refine r_iconst C at_54 (pc' := 55) rfl (z := (0 : Int32)) rfl ?_
      exact J55 _ trivial
    · intro cc
      refine r_iconst C at_50 (pc' := 51) rfl (z := (1 : Int32)) rfl ?_
      refine r_goto C at_51 (pc' := 55) (by decide) ?_
      exact J55 _ trivial
  intro b2 _
  show Run _ _ _ _ _ _ _ _ _ _ _ _ _ _ _ h0 0 0 55 #[.val (.int p0), .val (.int p1), .val (.int p2), .val (.int p3), .val (.int fl), .val (.int kk), .val (.int b0), .val (.int b1), .unset, .unset, .unset, .unset, .unset, .unset, .unset, .unset, .unset] [(.int b2)]
  refine r_istore C at_55 (pc' := 57) rfl (ls' := #[.val (.int p0), .val (.int p1), .val (.int p2), .val (.int p3), .val (.int fl), .val (.int kk), .val (.int b0), .val (.int b1), .val (.int b2), .unset, .unset, .unset, .unset, .unset, .unset, .unset, .unset]) rfl ?_
  refine join (α := Int32) (fun jq => True) (fun jq => h0) 0 0 72 (fun jq => #[.val (.int p0), .val (.int p1), .val (.int p2), .val (.int p3), .val (.int fl), .val (.int kk), .val (.int b0), .val (.int b1), .val (.int b2), .unset, .unset, .unset, .unset, .unset, .unset, .unset, .unset]) (fun jq => [(.int jq)]) ?_ ?_
  rotate_left
  · intro J72
    refine r_iload C at_57 (pc' := 59) rfl rfl ?_
    refine r_bipush C at_59 (pc' := 61) rfl (z := (6 : Int32)) rfl ?_
    refine r_ishr C at_61 (pc' := 62) rfl (z := (fl >>> ((6 : Int32) &&& 31))) rfl ?_
    refine r_iconst C at_62 (pc' := 63) rfl (z := (1 : Int32)) rfl ?_
    refine r_iand C at_63 (pc' := 64) rfl (z := ((fl >>> ((6 : Int32) &&& 31)) &&& (1 : Int32))) rfl ?_
    refine r_ifeq C at_64 (pcT := 71) (pcF := 67) (by decide) rfl ?_ ?_
    · intro cc
      refine r_iconst C at_71 (pc' := 72) rfl (z := (0 : Int32)) rfl ?_
      exact J72 _ trivial
    · intro cc
      refine r_iconst C at_67 (pc' := 68) rfl (z := (1 : Int32)) rfl ?_
      refine r_goto C at_68 (pc' := 72) (by decide) ?_
      exact J72 _ trivial
  intro b3 _
  show Run _ _ _ _ _ _ _ _ _ _ _ _ _ _ _ h0 0 0 72 #[.val (.int p0), .val (.int p1), .val (.int p2), .val (.int p3), .val (.int fl), .val (.int kk), .val (.int b0), .val (.int b1), .val (.int b2), .unset, .unset, .unset, .unset, .unset, .unset, .unset, .unset] [(.int b3)]
  refine r_istore C at_72 (pc' := 74) rfl (ls' := #[.val (.int p0), .val (.int p1), .val (.int p2), .val (.int p3), .val (.int fl), .val (.int kk), .val (.int b0), .val (.int b1), .val (.int b2), .val (.int b3), .unset, .unset, .unset, .unset, .unset, .unset, .unset]) rfl ?_
  refine r_iload_n C at_74 (pc' := 75) rfl rfl ?_
  refine r_istore C at_75 (pc' := 77) rfl (ls' := #[.val (.int p0), .val (.int p1), .val (.int p2), .val (.int p3), .val (.int fl), .val (.int kk), .val (.int b0), .val (.int b1), .val (.int b2), .val (.int b3), .val (.int p0), .unset, .unset, .unset, .unset, .unset, .unset]) rfl ?_
  refine join (α := Int32) (fun jq => True) (fun jq => h0) 0 0 93 (fun jq => #[.val (.int p0), .val (.int p1), .val (.int p2), .val (.int p3), .val (.int fl), .val (.int kk), .val (.int b0), .val (.int b1), .val (.int b2), .val (.int b3), .val (.int p0), .unset, .unset, .unset, .unset, .unset, .unset]) (fun jq => [(.int jq)]) ?_ ?_
  rotate_left
  · intro J93
    refine r_iload C at_77 (pc' := 79) rfl rfl ?_
    refine r_bipush C at_79 (pc' := 81) rfl (z := (7 : Int32)) rfl ?_
    refine r_ishr C at_81 (pc' := 82) rfl (z := (fl >>> ((7 : Int32) &&& 31))) rfl ?_
    refine r_iconst C at_82 (pc' := 83) rfl (z := (1 : Int32)) rfl ?_
    refine r_iand C at_83 (pc' := 84) rfl (z := ((fl >>> ((7 : Int32) &&& 31)) &&& (1 : Int32))) rfl ?_
    refine r_ifeq C at_84 (pcT := 92) (pcF := 87) (by decide) rfl ?_ ?_
    · intro cc
      refine r_iload_n C at_92 (pc' := 93) rfl rfl ?_
      exact J93 _ trivial
    · intro cc
      refine r_iload C at_87 (pc' := 89) rfl rfl ?_
      refine r_goto C at_89 (pc' := 93) (by decide) ?_
      exact J93 _ trivial
  intro q1 _
  show Run _ _ _ _ _ _ _ _ _ _ _ _ _ _ _ h0 0 0 93 #[.val (.int p0), .val (.int p1), .val (.int p2), .val (.int p3), .val (.int fl), .val (.int kk), .val (.int b0), .val (.int b1), .val (.int b2), .val (.int b3), .val (.int p0), .unset, .unset, .unset, .unset, .unset, .unset] [(.int q1)]
  refine r_istore C at_93 (pc' := 95) rfl (ls' := #[.val (.int p0), .val (.int p1), .val (.int p2), .val (.int p3), .val (.int fl), .val (.int kk), .val (.int b0), .val (.int b1), .val (.int b2), .val (.int b3), .val (.int p0), .val (.int q1), .unset, .unset, .unset, .unset, .unset]) rfl ?_
  refine join (α := Int32) (fun jq => True) (fun jq => h0) 0 0 111 (fun jq => #[.val (.int p0), .val (.int p1), .val (.int p2), .val (.int p3), .val (.int fl), .val (.int kk), .val (.int b0), .val (.int b1), .val (.int b2), .val (.int b3), .val (.int p0), .val (.int q1), .unset, .unset, .unset, .unset, .unset]) (fun jq => [(.int jq)]) ?_ ?_
  rotate_left
  · intro J111
    refine r_iload C at_95 (pc' := 97) rfl rfl ?_
    refine r_bipush C at_97 (pc' := 99) rfl (z := (8 : Int32)) rfl ?_
    refine r_ishr C at_99 (pc' := 100) rfl (z := (fl >>> ((8 : Int32) &&& 31))) rfl ?_
    refine r_iconst C at_100 (pc' := 101) rfl (z := (1 : Int32)) rfl ?_
    refine r_iand C at_101 (pc' := 102) rfl (z := ((fl >>> ((8 : Int32) &&& 31)) &&& (1 : Int32))) rfl ?_
    refine r_ifeq C at_102 (pcT := 110) (pcF := 105) (by decide) rfl ?_ ?_
    · intro cc
      refine r_iload_n C at_110 (pc' := 111) rfl rfl ?_
      exact J111 _ trivial
    · intro cc
      refine r_iload C at_105 (pc' := 107) rfl rfl ?_
      refine r_goto C at_107 (pc' := 111) (by decide) ?_
      exact J111 _ trivial
  intro q2 _
  show Run _ _ _ _ _ _ _ _ _ _ _ _ _ _ _ h0 0 0 111 #[.val (.int p0), .val (.int p1), .val (.int p2), .val (.int p3), .val (.int fl), .val (.int kk), .val (.int b0), .val (.int b1), .val (.int b2), .val (.int b3), .val (.int p0), .val (.int q1), .unset, .unset, .unset, .unset, .unset] [(.int q2)]
  refine r_istore C at_111 (pc' := 113) rfl (ls' := #[.val (.int p0), .val (.int p1), .val (.int p2), .val (.int p3), .val (.int fl), .val (.int kk), .val (.int b0), .val (.int b1), .val (.int b2), .val (.int b3), .val (.int p0), .val (.int q1), .val (.int q2), .unset, .unset, .unset, .unset]) rfl ?_
  refine join (α := Int32) (fun jq => True) (fun jq => h0) 0 0 129 (fun jq => #[.val (.int p0), .val (.int p1), .val (.int p2), .val (.int p3), .val (.int fl), .val (.int kk), .val (.int b0), .val (.int b1), .val (.int b2), .val (.int b3), .val (.int p0), .val (.int q1), .val (.int q2), .unset, .unset, .unset, .unset]) (fun jq => [(.int jq)]) ?_ ?_
  rotate_left
  · intro J129
    refine r_iload C at_113 (pc' := 115) rfl rfl ?_
    refine r_bipush C at_115 (pc' := 117) rfl (z := (9 : Int32)) rfl ?_
    refine r_ishr C at_117 (pc' := 118) rfl (z := (fl >>> ((9 : Int32) &&& 31))) rfl ?_
    refine r_iconst C at_118 (pc' := 119) rfl (z := (1 : Int32)) rfl ?_
    refine r_iand C at_119 (pc' := 120) rfl (z := ((fl >>> ((9 : Int32) &&& 31)) &&& (1 : Int32))) rfl ?_
    refine r_ifeq C at_120 (pcT := 128) (pcF := 123) (by decide) rfl ?_ ?_
    · intro cc
      refine r_iload_n C at_128 (pc' := 129) rfl rfl ?_
      exact J129 _ trivial
    · intro cc
      refine r_iload C at_123 (pc' := 125) rfl rfl ?_
      refine r_goto C at_125 (pc' := 129) (by decide) ?_
      exact J129 _ trivial
  intro q3 _
  show Run _ _ _ _ _ _ _ _ _ _ _ _ _ _ _ h0 0 0 129 #[.val (.int p0), .val (.int p1), .val (.int p2), .val (.int p3), .val (.int fl), .val (.int kk), .val (.int b0), .val (.int b1), .val (.int b2), .val (.int b3), .val (.int p0), .val (.int q1), .val (.int q2), .unset, .unset, .unset, .unset] [(.int q3)]
  refine r_istore C at_129 (pc' := 131) rfl (ls' := #[.val (.int p0), .val (.int p1), .val (.int p2), .val (.int p3), .val (.int fl), .val (.int kk), .val (.int b0), .val (.int b1), .val (.int b2), .val (.int b3), .val (.int p0), .val (.int q1), .val (.int q2), .val (.int q3), .unset, .unset, .unset]) rfl ?_
  refine r_iload C at_131 (pc' := 133) rfl rfl ?_
  refine r_newarray (ty := .int) (dv := (.int (0 : Int32))) rfl (n := k) (cap := 4) C (t0 hw) rfl at_133 (pc' := 135) rfl hk hk4 (by decide) (by decide) (by decide) ?_
  intro pa h1 ha_pa K1 A_pa
  have ge_pa : n0 ≤ pa := Nat.le_trans Z0 (Nat.le_of_eq (Eq.symm ha_pa))
  have Z0 := Nat.le_trans Z0 K1.1
  have A_pa : IA Z h1 pa .int k (fun i => .int ((fun _ => (0 : Int32)) i)) := A_pa
  refine r_astore C at_135 (pc' := 137) rfl rfl (ls' := #[.val (.int p0), .val (.int p1), .val (.int p2), .val (.int p3), .val (.int fl), .val (.int kk), .val (.int b0), .val (.int b1), .val (.int b2), .val (.int b3), .val (.int p0), .val (.int q1), .val (.int q2), .val (.int q3), .val (.ref pa), .unset, .unset]) rfl ?_
  refine r_iload C at_137 (pc' := 139) rfl rfl ?_
  refine r_newarray (ty := .boolean) (dv := (.int (0 : Int32))) rfl (n := k) (cap := 4) C (t1 hw) rfl at_139 (pc' := 141) rfl hk hk4 (by decide) (by decide) (by decide) ?_
  intro ba h2 ha_ba K2 A_ba
  have ne_pa_ba : pa ≠ ba := Nat.ne_of_lt (Nat.lt_of_lt_of_le A_pa.lt (Nat.le_of_eq (Eq.symm ha_ba)))
  have ne_ba_pa : ba ≠ pa := fun q => ne_pa_ba q.symm
  have ge_ba : n0 ≤ ba := Nat.le_trans Z0 (Nat.le_of_eq (Eq.symm ha_ba))
  have A_pa := A_pa.keep K2 nin0
  have Z0 := Nat.le_trans Z0 K2.1
  have A_ba : IA Z h2 ba .boolean k (fun i => .int ((fun _ => (0 : Int32)) i)) := A_ba
  refine r_astore C at_141 (pc' := 143) rfl rfl (ls' := #[.val (.int p0), .val (.int p1), .val (.int p2), .val (.int p3), .val (.int fl), .val (.int kk), .val (.int b0), .val (.int b1), .val (.int b2), .val (.int b3), .val (.int p0), .val (.int q1), .val (.int q2), .val (.int q3), .val (.ref pa), .val (.ref ba), .unset]) rfl ?_
  refine join (α := Heap × (Nat → Int32) × (Nat → Int32)) (fun jq => n0 ≤ jq.1.size ∧ IA Z jq.1 pa .int k (fun i => .int (jq.2.1 i)) ∧ IA Z jq.1 ba .boolean k (fun i => .int (jq.2.2 i))) (fun jq => jq.1) 2 8 160 (fun jq => #[.val (.int p0), .val (.int p1), .val (.int p2), .val (.int p3), .val (.int fl), .val (.int kk), .val (.int b0), .val (.int b1), .val (.int b2), .val (.int b3), .val (.int p0), .val (.int q1), .val (.int q2), .val (.int q3), .val (.ref pa), .val (.ref ba), .unset]) (fun jq => []) ?_ ?_
  rotate_left
  · intro J160
    refine r_iload C at_143 (pc' := 145) rfl rfl ?_
    refine r_ifle C at_145 (pcT := 160) (pcF := 148) (by decide) rfl ?_ ?_
    · intro cc
      exact J160 (h2, _, _) ⟨Z0, A_pa, A_ba⟩
    · intro cc
      replace cc : 0 < kk.toInt := cc
      refine r_aload C at_148 (pc' := 150) rfl rfl rfl ?_
      refine r_iconst C at_150 (pc' := 151) rfl (z := (0 : Int32)) rfl ?_
      refine r_iload C at_151 (pc' := 153) rfl rfl ?_
      refine r_iastore C at_153 (pc' := 154) rfl A_pa (jn := 0) (by decide) (by omega) ge_pa ?_
      intro h3 K3 A_pa
      have A_ba := A_ba.keep K3 (ninS ne_ba_pa nin0)
      have Z0 := Nat.le_trans Z0 K3.1
      have A_pa : IA Z h3 pa .int k (fun i => .int ((fun i => if i = 0 then p0 else (fun _ => (0 : Int32)) i) i)) := A_pa
      refine r_aload C at_154 (pc' := 156) rfl rfl rfl ?_
      refine r_iconst C at_156 (pc' := 157) rfl (z := (0 : Int32)) rfl ?_
      refine r_iload C at_157 (pc' := 159) rfl rfl ?_
      refine r_zastore C at_159 (pc' := 160) rfl A_ba (jn := 0) (by decide) (by omega) ge_ba ?_
      intro h4 K4 A_ba
      have A_pa := A_pa.keep K4 (ninS ne_pa_ba nin0)
      have Z0 := Nat.le_trans Z0 K4.1
      have A_ba : IA Z h4 ba .boolean k (fun i => .int ((fun i => if i = 0 then (nar .boolean b0) else (fun _ => (0 : Int32)) i) i)) := A_ba
      exact J160 (h4, _, _) ⟨Z0, A_pa, A_ba⟩
  rintro ⟨h5, f0, g0⟩ ⟨Z0, A_pa, A_ba⟩
  dsimp only at Z0 A_pa A_ba ⊢
  refine join (α := Heap × (Nat → Int32) × (Nat → Int32)) (fun jq => n0 ≤ jq.1.size ∧ IA Z jq.1 pa .int k (fun i => .int (jq.2.1 i)) ∧ IA Z jq.1 ba .boolean k (fun i => .int (jq.2.2 i))) (fun jq => jq.1) 2 8 178 (fun jq => #[.val (.int p0), .val (.int p1), .val (.int p2), .val (.int p3), .val (.int fl), .val (.int kk), .val (.int b0), .val (.int b1), .val (.int b2), .val (.int b3), .val (.int p0), .val (.int q1), .val (.int q2), .val (.int q3), .val (.ref pa), .val (.ref ba), .unset]) (fun jq => []) ?_ ?_
  rotate_left
  · intro J178
    refine r_iload C at_160 (pc' := 162) rfl rfl ?_
    refine r_iconst C at_162 (pc' := 163) rfl (z := (1 : Int32)) rfl ?_
    refine r_icmple C at_163 (pcT := 178) (pcF := 166) (by decide) rfl ?_ ?_
    · intro cc
      exact J178 (h5, _, _) ⟨Z0, A_pa, A_ba⟩
    · intro cc
      replace cc : 1 < kk.toInt := cc
      refine r_aload C at_166 (pc' := 168) rfl rfl rfl ?_
      refine r_iconst C at_168 (pc' := 169) rfl (z := (1 : Int32)) rfl ?_
      refine r_iload C at_169 (pc' := 171) rfl rfl ?_
      refine r_iastore C at_171 (pc' := 172) rfl A_pa (jn := 1) (by decide) (by omega) ge_pa ?_
      intro h6 K6 A_pa
      have A_ba := A_ba.keep K6 (ninS ne_ba_pa nin0)
      have Z0 := Nat.le_trans Z0 K6.1
      have A_pa : IA Z h6 pa .int k (fun i => .int ((fun i => if i = 1 then q1 else f0 i) i)) := A_pa
      refine r_aload C at_172 (pc' := 174) rfl rfl rfl ?_
      refine r_iconst C at_174 (pc' := 175) rfl (z := (1 : Int32)) rfl ?_
      refine r_iload C at_175 (pc' := 177) rfl rfl ?_
      refine r_zastore C at_177 (pc' := 178) rfl A_ba (jn := 1) (by decide) (by omega) ge_ba ?_
      intro h7 K7 A_ba
      have A_pa := A_pa.keep K7 (ninS ne_pa_ba nin0)
      have Z0 := Nat.le_trans Z0 K7.1
      have A_ba : IA Z h7 ba .boolean k (fun i => .int ((fun i => if i = 1 then (nar .boolean b1) else g0 i) i)) := A_ba
      exact J178 (h7, _, _) ⟨Z0, A_pa, A_ba⟩
  rintro ⟨h8, f1, g1⟩ ⟨Z0, A_pa, A_ba⟩
  dsimp only at Z0 A_pa A_ba ⊢
  refine join (α := Heap × (Nat → Int32) × (Nat → Int32)) (fun jq => n0 ≤ jq.1.size ∧ IA Z jq.1 pa .int k (fun i => .int (jq.2.1 i)) ∧ IA Z jq.1 ba .boolean k (fun i => .int (jq.2.2 i))) (fun jq => jq.1) 2 8 196 (fun jq => #[.val (.int p0), .val (.int p1), .val (.int p2), .val (.int p3), .val (.int fl), .val (.int kk), .val (.int b0), .val (.int b1), .val (.int b2), .val (.int b3), .val (.int p0), .val (.int q1), .val (.int q2), .val (.int q3), .val (.ref pa), .val (.ref ba), .unset]) (fun jq => []) ?_ ?_
  rotate_left
  · intro J196
    refine r_iload C at_178 (pc' := 180) rfl rfl ?_
    refine r_iconst C at_180 (pc' := 181) rfl (z := (2 : Int32)) rfl ?_
    refine r_icmple C at_181 (pcT := 196) (pcF := 184) (by decide) rfl ?_ ?_
    · intro cc
      exact J196 (h8, _, _) ⟨Z0, A_pa, A_ba⟩
    · intro cc
      replace cc : 2 < kk.toInt := cc
      refine r_aload C at_184 (pc' := 186) rfl rfl rfl ?_
      refine r_iconst C at_186 (pc' := 187) rfl (z := (2 : Int32)) rfl ?_
      refine r_iload C at_187 (pc' := 189) rfl rfl ?_
      refine r_iastore C at_189 (pc' := 190) rfl A_pa (jn := 2) (by decide) (by omega) ge_pa ?_
      intro h9 K9 A_pa
      have A_ba := A_ba.keep K9 (ninS ne_ba_pa nin0)
      have Z0 := Nat.le_trans Z0 K9.1
      have A_pa : IA Z h9 pa .int k (fun i => .int ((fun i => if i = 2 then q2 else f1 i) i)) := A_pa
      refine r_aload C at_190 (pc' := 192) rfl rfl rfl ?_
      refine r_iconst C at_192 (pc' := 193) rfl (z := (2 : Int32)) rfl ?_
      refine r_iload C at_193 (pc' := 195) rfl rfl ?_
      refine r_zastore C at_195 (pc' := 196) rfl A_ba (jn := 2) (by decide) (by omega) ge_ba ?_
      intro h10 K10 A_ba
      have A_pa := A_pa.keep K10 (ninS ne_pa_ba nin0)
      have Z0 := Nat.le_trans Z0 K10.1
      have A_ba : IA Z h10 ba .boolean k (fun i => .int ((fun i => if i = 2 then (nar .boolean b2) else g1 i) i)) := A_ba
      exact J196 (h10, _, _) ⟨Z0, A_pa, A_ba⟩
  rintro ⟨h11, f2, g2⟩ ⟨Z0, A_pa, A_ba⟩
  dsimp only at Z0 A_pa A_ba ⊢
  refine join (α := Heap × (Nat → Int32) × (Nat → Int32)) (fun jq => n0 ≤ jq.1.size ∧ IA Z jq.1 pa .int k (fun i => .int (jq.2.1 i)) ∧ IA Z jq.1 ba .boolean k (fun i => .int (jq.2.2 i))) (fun jq => jq.1) 2 8 214 (fun jq => #[.val (.int p0), .val (.int p1), .val (.int p2), .val (.int p3), .val (.int fl), .val (.int kk), .val (.int b0), .val (.int b1), .val (.int b2), .val (.int b3), .val (.int p0), .val (.int q1), .val (.int q2), .val (.int q3), .val (.ref pa), .val (.ref ba), .unset]) (fun jq => []) ?_ ?_
  rotate_left
  · intro J214
    refine r_iload C at_196 (pc' := 198) rfl rfl ?_
    refine r_iconst C at_198 (pc' := 199) rfl (z := (3 : Int32)) rfl ?_
    refine r_icmple C at_199 (pcT := 214) (pcF := 202) (by decide) rfl ?_ ?_
    · intro cc
      exact J214 (h11, _, _) ⟨Z0, A_pa, A_ba⟩
    · intro cc
      replace cc : 3 < kk.toInt := cc
      refine r_aload C at_202 (pc' := 204) rfl rfl rfl ?_
      refine r_iconst C at_204 (pc' := 205) rfl (z := (3 : Int32)) rfl ?_
      refine r_iload C at_205 (pc' := 207) rfl rfl ?_
      refine r_iastore C at_207 (pc' := 208) rfl A_pa (jn := 3) (by decide) (by omega) ge_pa ?_
      intro h12 K12 A_pa
      have A_ba := A_ba.keep K12 (ninS ne_ba_pa nin0)
      have Z0 := Nat.le_trans Z0 K12.1
      have A_pa : IA Z h12 pa .int k (fun i => .int ((fun i => if i = 3 then q3 else f2 i) i)) := A_pa
      refine r_aload C at_208 (pc' := 210) rfl rfl rfl ?_
      refine r_iconst C at_210 (pc' := 211) rfl (z := (3 : Int32)) rfl ?_
      refine r_iload C at_211 (pc' := 213) rfl rfl ?_
      refine r_zastore C at_213 (pc' := 214) rfl A_ba (jn := 3) (by decide) (by omega) ge_ba ?_
      intro h13 K13 A_ba
      have A_pa := A_pa.keep K13 (ninS ne_pa_ba nin0)
      have Z0 := Nat.le_trans Z0 K13.1
      have A_ba : IA Z h13 ba .boolean k (fun i => .int ((fun i => if i = 3 then (nar .boolean b3) else g2 i) i)) := A_ba
      exact J214 (h13, _, _) ⟨Z0, A_pa, A_ba⟩
  rintro ⟨h14, f3, g3⟩ ⟨Z0, A_pa, A_ba⟩
  dsimp only at Z0 A_pa A_ba ⊢
  refine r_aload C at_214 (pc' := 216) rfl rfl rfl ?_
  refine r_aload C at_216 (pc' := 218) rfl rfl rfl ?_
  refine r_callS (y := (⟨"com/example/bellsplit/bellsplit/search/IntegerPartitionSearch", "runs", "([I[Z)[I"⟩ : MethodName)) (as := [(.ref pa), (.ref ba)]) (st := []) C (t2 hw) (t3 hw) (t4 hw) (t5 hw) (by decide) pd1 rfl rfl at_218 (pc' := 221) rfl rfl (W := 0) (Nat.le_of_eq rfl) (rmR l Z a0 hw pa ba kk k f3 g3 h14 n0 Z0 A_pa A_ba hk hk4) (by decide) (by decide) (by decide) (by decide) ?_
  rintro _ h15 ⟨rr, rfl, hgr, KK, r, A_rr, hr⟩
  have A_pa := A_pa.keep KK nin0
  have A_ba := A_ba.keep KK nin0
  show Run _ _ _ _ _ _ _ _ _ _ _ _ _ _ _ h15 3 12 221 #[.val (.int p0), .val (.int p1), .val (.int p2), .val (.int p3), .val (.int fl), .val (.int kk), .val (.int b0), .val (.int b1), .val (.int b2), .val (.int b3), .val (.int p0), .val (.int q1), .val (.int q2), .val (.int q3), .val (.ref pa), .val (.ref ba), .unset] [(.ref rr)]
  refine r_astore C at_221 (pc' := 223) rfl rfl (ls' := #[.val (.int p0), .val (.int p1), .val (.int p2), .val (.int p3), .val (.int fl), .val (.int kk), .val (.int b0), .val (.int b1), .val (.int b2), .val (.int b3), .val (.int p0), .val (.int q1), .val (.int q2), .val (.int q3), .val (.ref pa), .val (.ref ba), .val (.ref rr)]) rfl ?_
  refine r_aload C at_223 (pc' := 225) rfl rfl rfl ?_
  refine r_ifnullR C at_225 (pc' := 228) rfl ?_
  refine r_aload C at_228 (pc' := 230) rfl rfl rfl ?_
  refine r_arraylength C at_230 (pc' := 231) rfl A_rr (z := kk) hk ?_
  refine r_iload C at_231 (pc' := 233) rfl rfl ?_
  refine r_icmpeq C at_233 (pcT := 238) (pcF := 236) (by decide) rfl ?_ ?_
  rotate_left
  · intro c233
    exact absurd rfl c233
  intro c233
  refine r_aload C at_238 (pc' := 240) rfl rfl rfl ?_
  refine r_aload C at_240 (pc' := 242) rfl rfl rfl ?_
  refine r_aload C at_242 (pc' := 244) rfl rfl rfl ?_
  refine r_iload C at_244 (pc' := 246) rfl rfl ?_
  refine r_iconst C at_246 (pc' := 247) rfl (z := (0 : Int32)) rfl ?_
  refine r_callS (y := (⟨"com/example/bellsplit/bellsplit/search/IntegerPartitionSearchRunsPinLaw", "check", "([I[I[ZII)Z"⟩ : MethodName)) (as := [(.ref rr), (.ref pa), (.ref ba), (.int kk), (.int (0 : Int32))]) (st := []) C (t6 hw) (t7 hw) (t8 hw) (t9 hw) (by decide) pd2 rfl rfl at_247 (pc' := 250) rfl rfl (W := 0) (Nat.le_of_eq rfl) (rmC l Z a0 hw rr pa ba kk (0 : Int32) k 0 f3 g3 r h15 n0 A_pa A_ba hk hk4 A_rr hr (by decide) (by decide)) (by decide) (by decide) (by decide) (by decide) ?_
  rintro _ _ ⟨rfl, rfl⟩
  show Run _ _ _ _ _ _ _ _ _ _ _ _ _ _ _ h15 3 12 250 #[.val (.int p0), .val (.int p1), .val (.int p2), .val (.int p3), .val (.int fl), .val (.int kk), .val (.int b0), .val (.int b1), .val (.int b2), .val (.int b3), .val (.int p0), .val (.int q1), .val (.int q2), .val (.int q3), .val (.ref pa), .val (.ref ba), .val (.ref rr)] [(.int (1 : Int32))]
  refine r_ifeq C at_250 (pcT := 302) (pcF := 253) (by decide) rfl ?_ ?_
  · intro c250
    exact absurd c250 (by decide)
  intro c250
  refine r_aload C at_253 (pc' := 255) rfl rfl rfl ?_
  refine r_aload C at_255 (pc' := 257) rfl rfl rfl ?_
  refine r_aload C at_257 (pc' := 259) rfl rfl rfl ?_
  refine r_iload C at_259 (pc' := 261) rfl rfl ?_
  refine r_iconst C at_261 (pc' := 262) rfl (z := (1 : Int32)) rfl ?_
  refine r_callS (y := (⟨"com/example/bellsplit/bellsplit/search/IntegerPartitionSearchRunsPinLaw", "check", "([I[I[ZII)Z"⟩ : MethodName)) (as := [(.ref rr), (.ref pa), (.ref ba), (.int kk), (.int (1 : Int32))]) (st := []) C (t6 hw) (t7 hw) (t8 hw) (t9 hw) (by decide) pd2 rfl rfl at_262 (pc' := 265) rfl rfl (W := 0) (Nat.le_of_eq rfl) (rmC l Z a0 hw rr pa ba kk (1 : Int32) k 1 f3 g3 r h15 n0 A_pa A_ba hk hk4 A_rr hr (by decide) (by decide)) (by decide) (by decide) (by decide) (by decide) ?_
  rintro _ _ ⟨rfl, rfl⟩
  show Run _ _ _ _ _ _ _ _ _ _ _ _ _ _ _ h15 3 12 265 #[.val (.int p0), .val (.int p1), .val (.int p2), .val (.int p3), .val (.int fl), .val (.int kk), .val (.int b0), .val (.int b1), .val (.int b2), .val (.int b3), .val (.int p0), .val (.int q1), .val (.int q2), .val (.int q3), .val (.ref pa), .val (.ref ba), .val (.ref rr)] [(.int (1 : Int32))]
  refine r_ifeq C at_265 (pcT := 302) (pcF := 268) (by decide) rfl ?_ ?_
  · intro c265
    exact absurd c265 (by decide)
  intro c265
  refine r_aload C at_268 (pc' := 270) rfl rfl rfl ?_
  refine r_aload C at_270 (pc' := 272) rfl rfl rfl ?_
  refine r_aload C at_272 (pc' := 274) rfl rfl rfl ?_
  refine r_iload C at_274 (pc' := 276) rfl rfl ?_
  refine r_iconst C at_276 (pc' := 277) rfl (z := (2 : Int32)) rfl ?_
  refine r_callS (y := (⟨"com/example/bellsplit/bellsplit/search/IntegerPartitionSearchRunsPinLaw", "check", "([I[I[ZII)Z"⟩ : MethodName)) (as := [(.ref rr), (.ref pa), (.ref ba), (.int kk), (.int (2 : Int32))]) (st := []) C (t6 hw) (t7 hw) (t8 hw) (t9 hw) (by decide) pd2 rfl rfl at_277 (pc' := 280) rfl rfl (W := 0) (Nat.le_of_eq rfl) (rmC l Z a0 hw rr pa ba kk (2 : Int32) k 2 f3 g3 r h15 n0 A_pa A_ba hk hk4 A_rr hr (by decide) (by decide)) (by decide) (by decide) (by decide) (by decide) ?_
  rintro _ _ ⟨rfl, rfl⟩
  show Run _ _ _ _ _ _ _ _ _ _ _ _ _ _ _ h15 3 12 280 #[.val (.int p0), .val (.int p1), .val (.int p2), .val (.int p3), .val (.int fl), .val (.int kk), .val (.int b0), .val (.int b1), .val (.int b2), .val (.int b3), .val (.int p0), .val (.int q1), .val (.int q2), .val (.int q3), .val (.ref pa), .val (.ref ba), .val (.ref rr)] [(.int (1 : Int32))]
  refine r_ifeq C at_280 (pcT := 302) (pcF := 283) (by decide) rfl ?_ ?_
  · intro c280
    exact absurd c280 (by decide)
  intro c280
  refine r_aload C at_283 (pc' := 285) rfl rfl rfl ?_
  refine r_aload C at_285 (pc' := 287) rfl rfl rfl ?_
  refine r_aload C at_287 (pc' := 289) rfl rfl rfl ?_
  refine r_iload C at_289 (pc' := 291) rfl rfl ?_
  refine r_iconst C at_291 (pc' := 292) rfl (z := (3 : Int32)) rfl ?_
  refine r_callS (y := (⟨"com/example/bellsplit/bellsplit/search/IntegerPartitionSearchRunsPinLaw", "check", "([I[I[ZII)Z"⟩ : MethodName)) (as := [(.ref rr), (.ref pa), (.ref ba), (.int kk), (.int (3 : Int32))]) (st := []) C (t6 hw) (t7 hw) (t8 hw) (t9 hw) (by decide) pd2 rfl rfl at_292 (pc' := 295) rfl rfl (W := 0) (Nat.le_of_eq rfl) (rmC l Z a0 hw rr pa ba kk (3 : Int32) k 3 f3 g3 r h15 n0 A_pa A_ba hk hk4 A_rr hr (by decide) (by decide)) (by decide) (by decide) (by decide) (by decide) ?_
  rintro _ _ ⟨rfl, rfl⟩
  show Run _ _ _ _ _ _ _ _ _ _ _ _ _ _ _ h15 3 12 295 #[.val (.int p0), .val (.int p1), .val (.int p2), .val (.int p3), .val (.int fl), .val (.int kk), .val (.int b0), .val (.int b1), .val (.int b2), .val (.int b3), .val (.int p0), .val (.int q1), .val (.int q2), .val (.int q3), .val (.ref pa), .val (.ref ba), .val (.ref rr)] [(.int (1 : Int32))]
  refine r_ifeq C at_295 (pcT := 302) (pcF := 298) (by decide) rfl ?_ ?_
  · intro c295
    exact absurd c295 (by decide)
  intro c295
  refine r_iconst C at_298 (pc' := 299) rfl (z := (1 : Int32)) rfl ?_
  refine r_goto C at_299 (pc' := 303) (by decide) ?_
  exact r_ireturnN (t := .boolean) (by simp) C at_303 rfl (by decide) (by decide)
set_option maxRecDepth 65536 in
set_option maxHeartbeats 40000000 in
theorem comes_1 {Post : Tables → Env → Array Value → State → Outcome → State → Prop} (hpost : ∀ tb e args s v u, (limb_1_1.after args s (.returned v) u = true ∧ limb_1_2.after args s (.returned v) u = true ∧ True) → FrameEnd s (.returned v) u (Jvm.fieldLocs frame_1_writes args s ++ Jvm.arrayLocs frame_1_arrays args s ++ Jvm.staticLocs frame_1_statics s) 16 128 → Post tb e args s (.returned v) u) :
    ArmFor flags0 classFile x code maxLocals ret World_1 tables_1 room_1 Calls_1 rest_1 Pre_1 Post := by
  intro l hfl _ _ p e ha hc hk s m args below hf hA hF happ hP
  obtain ⟨hcalls, hrest, hpre⟩ := hP
  obtain ⟨-, -, -, hnamed, -, -, -, hat⟩ := (Spec.applies_iff hf).mp happ
  obtain ⟨hg, hn⟩ := and_e (Cond.before_iff.mp (show (Jvm.Cond.and given_1 narrow_1).before args s = true from hpre))
  obtain ⟨g0, k0⟩ := and_e hg
  obtain ⟨w0, w1, w2, w3, w4, rfl⟩ : ∃ w0 w1 w2 w3 w4 : Value, args = #[w0, w1, w2, w3, w4] := by
    have hs : args.size = 5 := by simpa [Cond.value, given_1] using g0
    obtain ⟨L⟩ := args
    match L, hs with
    | [w0, w1, w2, w3, w4], _ => exact ⟨w0, w1, w2, w3, w4, rfl⟩
  have hw := fun d (hd : d ∈ tables_1) => atoms_spec (ws := Jvm.Cond.code x code maxLocals ret :: tables_1) hat d (List.mem_cons_of_mem _ hd)
  obtain ⟨j0, k1⟩ := and_e k0
  obtain ⟨i0, e0⟩ := is_v j0
  obtain rfl : w0 = (.int i0) := Option.some.inj e0
  obtain ⟨j1, k2⟩ := and_e k1
  obtain ⟨i1, e1⟩ := is_v j1
  obtain rfl : w1 = (.int i1) := Option.some.inj e1
  obtain ⟨j2, k3⟩ := and_e k2
  obtain ⟨i2, e2⟩ := is_v j2
  obtain rfl : w2 = (.int i2) := Option.some.inj e2
  obtain ⟨j3, k4⟩ := and_e k3
  obtain ⟨i3, e3⟩ := is_v j3
  obtain rfl : w3 = (.int i3) := Option.some.inj e3
  have j4 := k4
  obtain ⟨i4, e4⟩ := is_v j4
  obtain rfl : w4 = (.int i4) := Option.some.inj e4
  obtain ⟨n, o, h1, h2, h3, _, L, rfl, ⟨rfl, N⟩, hq⟩ := rm0 l s _ hw i0 i1 i2 i3 i4 s.heap s.heap.size (Nat.le_refl _) tables_1 p e ha hc hk s m _ below hf ((Spec.applies_iff_loose hf).mp happ).1 ⟨rfl, State.Warmed39.refl s, rfl⟩ trivial
  refine ⟨n, _, h1, h2, h3, hpost _ _ _ _ _ _ ⟨Cond.after_iff.mpr rfl, Cond.after_iff.mpr (eq_i res_at (Term.int_eval (1)) rfl), trivial⟩ ⟨hq.1, hq.2.1, (hq.2.2.sift fun y hy => Or.inr (N y hy)).mono (by decide) (by decide)⟩⟩
theorem main_1_1 : Claimed_1_1 := comes_1 fun _ _ _ _ _ _ h hF => ⟨h.1, hF⟩
theorem main_1_2 : Claimed_1_2 := comes_1 fun _ _ _ _ _ _ h hF => ⟨h.2.1, hF⟩
end Jvm.Pilot.@@N@@
namespace Jvm.Pilot.@@N@@
open Jvm Jvm.ClassFile Sem Op Lib Jvm.Free Jvm.Stand Jvm.Pilot.@@N@@.Jvm.D
/-! MADE BY PROGRAM (witnessworld.py) out of the Statement's table words and the real class files: 11 classes; the members and pool entries that the words name. The judged class is class 1, her method 1. -/
namespace start1
open Jvm.ClassFile
def u (s : String) : CpInfo := .utf8 (stringToUtf16 s)
/-- a pool by its gaps: so many unusable entries, then the entry; so many at the end -/
def gap : Nat → List CpInfo → List CpInfo
  | 0, r => r
  | n + 1, r => .unusable :: gap n r
def poolList (es : List (Nat × CpInfo)) (last : Nat) : List CpInfo := es.foldr (fun e r => gap e.1 (e.2 :: r)) (gap last [])
def pool (es : List (Nat × CpInfo)) (last : Nat) : Array CpInfo := ⟨poolList es last⟩
def fileOf (pool : Array CpInfo) (this : Nat) (attrs : Array Attribute := #[]) (ms : Array MethodInfo := #[]) (fl : Nat := 33) (sup : Nat := 0) (ifs : Array Nat := #[]) (fds : Array FieldInfo := #[]) : ClassFile where
  minorVersion := 0
  majorVersion := 65
  constantPool := pool
  accessFlags := fl
  thisClass := this
  superClass := sup
  interfaces := ifs
  fields := fds
  methods := ms
  attributes := attrs
def plain (name : String) (sup : Option ClassId) : Class where
  name := name
  kind := .ordinary
  loader := none
  accessFlags := 33
  super := sup
  interfaces := #[]
  cf := none
  fields := #[]
  methods := #[]
  instanceTypes := #[]
  staticTypes := #[]
  resolved := #[]
  callSites := []
  init := .initialized
  statics := none
  mirror := none

def pool0 : Array CpInfo := pool [(5, u "<init>"), (0, u "()V"), (1, .class_ 10), (1, u "java/lang/Object")] 113

def k0m0 : Method := { name := "<init>", desc := "()V", sig := { parameters := [], returnType := none }, accessFlags := 1, code := none }
/-- java/lang/Object -/
def k0 : Class := { plain "java/lang/Object" none with
  accessFlags := 33
  interfaces := #[]
  cf := some (fileOf pool0 8 #[] #[{ accessFlags := 1, nameIndex := 5, descriptorIndex := 6, attributes := #[] }] 33 0 #[] #[])
  fields := #[]
  methods := #[k0m0]
  instanceTypes := #[]
  staticTypes := #[]
  resolved := Array.replicate 124 none
  statics := none }

def pool1 : Array CpInfo := pool [(2, .class_ 4), (1, u "java/lang/Object"), (0, u "<init>"), (0, u "()V"), (0, .methodref 8 9), (0, .class_ 10), (0, .nameAndType 11 12), (0, u "com/example/bellsplit/bellsplit/search/IntegerPartitionSearch"), (0, u "runs"), (0, u "([I[Z)[I"), (0, .methodref 14 15), (0, .class_ 16), (0, .nameAndType 17 18), (0, u "com/example/bellsplit/bellsplit/search/IntegerPartitionSearchRunsPinLaw"), (0, u "check"), (0, u "([I[I[ZII)Z"), (0, .methodref 14 20), (0, .nameAndType 21 22), (0, u "same"), (0, u "([I[ZII)Z"), (2, u "law"), (0, u "(IIIII)Z")] 7

def k1m0 : Method := { name := "<init>", desc := "()V", sig := { parameters := [], returnType := none }, accessFlags := 1, code := none }
def k1c1 : Code := { maxStack := 5, maxLocals := 17, code := code, exceptionTable := #[], attributes := #[] }
def k1m1 : Method := { name := "law", desc := "(IIIII)Z", sig := { parameters := [.int, .int, .int, .int, .int], returnType := some .boolean }, accessFlags := 9, code := some k1c1 }
def k1c2 : Code := { maxStack := 4, maxLocals := 4, code := method_3_code, exceptionTable := #[], attributes := #[] }
def k1m2 : Method := { name := "same", desc := "([I[ZII)Z", sig := { parameters := [(.array .int), (.array .boolean), .int, .int], returnType := some .boolean }, accessFlags := 10, code := some k1c2 }
def k1c3 : Code := { maxStack := 5, maxLocals := 9, code := method_4_code, exceptionTable := #[], attributes := #[] }
def k1m3 : Method := { name := "check", desc := "([I[I[ZII)Z", sig := { parameters := [(.array .int), (.array .int), (.array .boolean), .int, .int], returnType := some .boolean }, accessFlags := 10, code := some k1c3 }
/-- com/example/bellsplit/bellsplit/search/IntegerPartitionSearchRunsPinLaw -/
def k1 : Class := { plain "com/example/bellsplit/bellsplit/search/IntegerPartitionSearchRunsPinLaw" (some 0) with
  accessFlags := 49
  interfaces := #[]
  cf := some (fileOf pool1 14 #[] #[{ accessFlags := 1, nameIndex := 5, descriptorIndex := 6, attributes := #[] }, { accessFlags := 9, nameIndex := 25, descriptorIndex := 26, attributes := #[] }, { accessFlags := 10, nameIndex := 21, descriptorIndex := 22, attributes := #[] }, { accessFlags := 10, nameIndex := 17, descriptorIndex := 18, attributes := #[] }] 49 2 #[] #[])
  fields := #[]
  methods := #[k1m0, k1m1, k1m2, k1m3]
  instanceTypes := #[]
  staticTypes := #[]
  resolved := Array.replicate 34 none
  statics := none }

def pool2 : Array CpInfo := pool [(6, .class_ 8), (1, u "com/example/bellsplit/bellsplit/search/IntegerPartitionSearch"), (3, .class_ 14), (1, u "java/lang/Object"), (1, .class_ 17), (0, u "com/example/bellsplit/bellsplit/search/IntegerPartitionSearch$1"), (5, u "prospect"), (0, u "Lcom/example/bellsplit/bellsplit/search/Cover$Prospect;"), (5, u "estimated"), (0, u "Ljava/util/Map;"), (6, u "estimatedWith"), (0, u "D"), (5, u "covered"), (0, u "Ljava/util/Set;"), (4, u "bestValue"), (2, u "bound"), (1, .class_ 58), (1, u "com/example/bellsplit/bellsplit/search/IntegerPartitionSearch$Lookout"), (1, u "Lcom/example/bellsplit/bellsplit/search/IntegerPartitionSearch$Lookout;"), (2, u "lookout"), (2, u "values"), (0, u "Lcom/example/bellsplit/bellsplit/model/CoalitionValues;"), (8, u "sizes"), (0, u "Lcom/example/bellsplit/bellsplit/model/GreatestBySize;"), (2, u "idp"), (0, u "Lcom/example/bellsplit/bellsplit/search/ImprovedDynamicProgramme;"), (2, u "planner"), (0, u "Lcom/example/bellsplit/bellsplit/search/Cover$Planner;"), (19, .class_ 106), (0, u "com/example/bellsplit/bellsplit/search/IntegerPartitionSearch$Result"), (4, u "best"), (0, u "[I"), (46, u "steps"), (0, u "J"), (51, .class_ 213), (0, u "com/example/bellsplit/bellsplit/search/IntegerPartitionSearch$Bounded"), (32, u "due"), (0, u "Lcom/example/bellsplit/bellsplit/model/Subspace;"), (2, u "underWay"), (0, u "Lcom/example/bellsplit/bellsplit/search/Cover;"), (2, u "underWayFrom"), (2, u "underWayPlannedWith"), (0, u "I"), (20, u "shrunk"), (0, .class_ 281), (0, u "com/example/bellsplit/bellsplit/search/IntegerPartitionSearch$Stopped"), (2, u "LEFT"), (0, u "Lcom/example/bellsplit/bellsplit/search/IntegerPartitionSearch$Stopped;"), (14, .class_ 302), (1, u "com/example/bellsplit/bellsplit/search/IntegerPartitionSearch$Shape"), (10, u "coveredByOneSearch"), (30, u "byBest"), (7, u "searching"), (2, u "parts"), (8, u "[Z"), (2, u "greatest"), (3, u "[D"), (2, u "runs"), (0, u "([I[Z)[I"), (2, u "run"), (2, u "cut"), (5, u "remaining"), (2, u "before"), (2, u "picked"), (34, u "SKIPPED"), (15, u "bestByBest"), (39, u "estimate"), (0, u "Lcom/example/bellsplit/bellsplit/search/BranchEstimate;"), (2, u "ESTIMATES_KEPT"), (3, u "LOOK_OUT_EVERY"), (20, .class_ 514), (0, u "com/example/bellsplit/bellsplit/search/IntegerPartitionSearch$Lookout$1"), (0, .class_ 516), (0, u "com/example/bellsplit/bellsplit/search/IntegerPartitionSearch$Estimated")] 47

def k2c0 : Code := { maxStack := 5, maxLocals := 6, code := prog_76_method_16_code, exceptionTable := #[], attributes := #[] }
def k2m0 : Method := { name := "runs", desc := "([I[Z)[I", sig := { parameters := [(.array .int), (.array .boolean)], returnType := some (.array .int) }, accessFlags := 8, code := some k2c0 }
/-- com/example/bellsplit/bellsplit/search/IntegerPartitionSearch -/
def k2 : Class := { plain "com/example/bellsplit/bellsplit/search/IntegerPartitionSearch" (some 0) with
  accessFlags := 49
  interfaces := #[]
  cf := some (fileOf pool2 6 #[.nestMembers #[300, 280, 56, 513, 212, 105, 515, 16]] #[{ accessFlags := 8, nameIndex := 374, descriptorIndex := 375, attributes := #[] }] 49 12 #[] #[{ accessFlags := 18, nameIndex := 66, descriptorIndex := 67, attributes := #[] }, { accessFlags := 18, nameIndex := 76, descriptorIndex := 77, attributes := #[] }, { accessFlags := 18, nameIndex := 80, descriptorIndex := 81, attributes := #[] }, { accessFlags := 18, nameIndex := 84, descriptorIndex := 85, attributes := #[] }, { accessFlags := 2, nameIndex := 484, descriptorIndex := 485, attributes := #[] }, { accessFlags := 18, nameIndex := 23, descriptorIndex := 24, attributes := #[] }, { accessFlags := 18, nameIndex := 30, descriptorIndex := 31, attributes := #[] }, { accessFlags := 26, nameIndex := 488, descriptorIndex := 258, attributes := #[] }, { accessFlags := 2, nameIndex := 38, descriptorIndex := 39, attributes := #[] }, { accessFlags := 18, nameIndex := 45, descriptorIndex := 46, attributes := #[] }, { accessFlags := 2, nameIndex := 313, descriptorIndex := 258, attributes := #[] }, { accessFlags := 2, nameIndex := 279, descriptorIndex := 258, attributes := #[] }, { accessFlags := 2, nameIndex := 111, descriptorIndex := 112, attributes := #[] }, { accessFlags := 2, nameIndex := 51, descriptorIndex := 39, attributes := #[] }, { accessFlags := 2, nameIndex := 444, descriptorIndex := 364, attributes := #[] }, { accessFlags := 2, nameIndex := 54, descriptorIndex := 39, attributes := #[] }, { accessFlags := 2, nameIndex := 63, descriptorIndex := 60, attributes := #[] }, { accessFlags := 2, nameIndex := 159, descriptorIndex := 160, attributes := #[] }, { accessFlags := 26, nameIndex := 492, descriptorIndex := 258, attributes := #[] }, { accessFlags := 2, nameIndex := 246, descriptorIndex := 247, attributes := #[] }, { accessFlags := 2, nameIndex := 250, descriptorIndex := 251, attributes := #[] }, { accessFlags := 2, nameIndex := 254, descriptorIndex := 160, attributes := #[] }, { accessFlags := 2, nameIndex := 257, descriptorIndex := 258, attributes := #[] }, { accessFlags := 2, nameIndex := 352, descriptorIndex := 247, attributes := #[] }, { accessFlags := 2, nameIndex := 344, descriptorIndex := 364, attributes := #[] }, { accessFlags := 2, nameIndex := 355, descriptorIndex := 112, attributes := #[] }, { accessFlags := 2, nameIndex := 367, descriptorIndex := 371, attributes := #[] }, { accessFlags := 2, nameIndex := 381, descriptorIndex := 371, attributes := #[] }, { accessFlags := 2, nameIndex := 378, descriptorIndex := 112, attributes := #[] }, { accessFlags := 2, nameIndex := 387, descriptorIndex := 112, attributes := #[] }, { accessFlags := 2, nameIndex := 390, descriptorIndex := 371, attributes := #[] }, { accessFlags := 2, nameIndex := 393, descriptorIndex := 112, attributes := #[] }, { accessFlags := 26, nameIndex := 428, descriptorIndex := 285, attributes := #[] }, { accessFlags := 26, nameIndex := 284, descriptorIndex := 285, attributes := #[] }])
  fields := #[{ name := "values", type := (.object "com/example/bellsplit/bellsplit/model/CoalitionValues"), accessFlags := 18, slot := 0, constantValue := 0 }, { name := "sizes", type := (.object "com/example/bellsplit/bellsplit/model/GreatestBySize"), accessFlags := 18, slot := 1, constantValue := 0 }, { name := "idp", type := (.object "com/example/bellsplit/bellsplit/search/ImprovedDynamicProgramme"), accessFlags := 18, slot := 2, constantValue := 0 }, { name := "planner", type := (.object "com/example/bellsplit/bellsplit/search/Cover$Planner"), accessFlags := 18, slot := 3, constantValue := 0 }, { name := "estimate", type := (.object "com/example/bellsplit/bellsplit/search/BranchEstimate"), accessFlags := 2, slot := 4, constantValue := 0 }, { name := "prospect", type := (.object "com/example/bellsplit/bellsplit/search/Cover$Prospect"), accessFlags := 18, slot := 5, constantValue := 0 }, { name := "estimated", type := (.object "java/util/Map"), accessFlags := 18, slot := 6, constantValue := 0 }, { name := "ESTIMATES_KEPT", type := .int, accessFlags := 26, slot := 0, constantValue := 0 }, { name := "estimatedWith", type := .double, accessFlags := 2, slot := 7, constantValue := 0 }, { name := "covered", type := (.object "java/util/Set"), accessFlags := 18, slot := 8, constantValue := 0 }, { name := "coveredByOneSearch", type := .int, accessFlags := 2, slot := 9, constantValue := 0 }, { name := "shrunk", type := .int, accessFlags := 2, slot := 10, constantValue := 0 }, { name := "best", type := (.array .int), accessFlags := 2, slot := 11, constantValue := 0 }, { name := "bestValue", type := .double, accessFlags := 2, slot := 12, constantValue := 0 }, { name := "bestByBest", type := (.array .boolean), accessFlags := 2, slot := 13, constantValue := 0 }, { name := "bound", type := .double, accessFlags := 2, slot := 14, constantValue := 0 }, { name := "lookout", type := (.object "com/example/bellsplit/bellsplit/search/IntegerPartitionSearch$Lookout"), accessFlags := 2, slot := 15, constantValue := 0 }, { name := "steps", type := .long, accessFlags := 2, slot := 16, constantValue := 0 }, { name := "LOOK_OUT_EVERY", type := .int, accessFlags := 26, slot := 1, constantValue := 0 }, { name := "due", type := (.object "com/example/bellsplit/bellsplit/model/Subspace"), accessFlags := 2, slot := 17, constantValue := 0 }, { name := "underWay", type := (.object "com/example/bellsplit/bellsplit/search/Cover"), accessFlags := 2, slot := 18, constantValue := 0 }, { name := "underWayFrom", type := .long, accessFlags := 2, slot := 19, constantValue := 0 }, { name := "underWayPlannedWith", type := .int, accessFlags := 2, slot := 20, constantValue := 0 }, { name := "searching", type := (.object "com/example/bellsplit/bellsplit/model/Subspace"), accessFlags := 2, slot := 21, constantValue := 0 }, { name := "byBest", type := (.array .boolean), accessFlags := 2, slot := 22, constantValue := 0 }, { name := "parts", type := (.array .int), accessFlags := 2, slot := 23, constantValue := 0 }, { name := "greatest", type := (.array .double), accessFlags := 2, slot := 24, constantValue := 0 }, { name := "cut", type := (.array .double), accessFlags := 2, slot := 25, constantValue := 0 }, { name := "run", type := (.array .int), accessFlags := 2, slot := 26, constantValue := 0 }, { name := "remaining", type := (.array .int), accessFlags := 2, slot := 27, constantValue := 0 }, { name := "before", type := (.array .double), accessFlags := 2, slot := 28, constantValue := 0 }, { name := "picked", type := (.array .int), accessFlags := 2, slot := 29, constantValue := 0 }, { name := "SKIPPED", type := (.object "com/example/bellsplit/bellsplit/search/IntegerPartitionSearch$Stopped"), accessFlags := 26, slot := 2, constantValue := 0 }, { name := "LEFT", type := (.object "com/example/bellsplit/bellsplit/search/IntegerPartitionSearch$Stopped"), accessFlags := 26, slot := 3, constantValue := 0 }]
  methods := #[k2m0]
  instanceTypes := #[(.object "com/example/bellsplit/bellsplit/model/CoalitionValues"), (.object "com/example/bellsplit/bellsplit/model/GreatestBySize"), (.object "com/example/bellsplit/bellsplit/search/ImprovedDynamicProgramme"), (.object "com/example/bellsplit/bellsplit/search/Cover$Planner"), (.object "com/example/bellsplit/bellsplit/search/BranchEstimate"), (.object "com/example/bellsplit/bellsplit/search/Cover$Prospect"), (.object "java/util/Map"), .double, (.object "java/util/Set"), .int, .int, (.array .int), .double, (.array .boolean), .double, (.object "com/example/bellsplit/bellsplit/search/IntegerPartitionSearch$Lookout"), .long, (.object "com/example/bellsplit/bellsplit/model/Subspace"), (.object "com/example/bellsplit/bellsplit/search/Cover"), .long, .int, (.object "com/example/bellsplit/bellsplit/model/Subspace"), (.array .boolean), (.array .int), (.array .double), (.array .double), (.array .int), (.array .int), (.array .double), (.array .int)]
  staticTypes := #[.int, .int, (.object "com/example/bellsplit/bellsplit/search/IntegerPartitionSearch$Stopped"), (.object "com/example/bellsplit/bellsplit/search/IntegerPartitionSearch$Stopped")]
  resolved := Array.replicate 564 none
  statics := none }

def pool3 : Array CpInfo := pool [(1, u "java/lang/Cloneable"), (0, .class_ 1), (0, u "java/lang/Object"), (0, .class_ 3)] 3

/-- java/lang/Cloneable -/
def k3 : Class := { plain "java/lang/Cloneable" (some 0) with
  accessFlags := 1537
  interfaces := #[]
  cf := some (fileOf pool3 2 #[] #[] 1537 4 #[] #[])
  fields := #[]
  methods := #[]
  instanceTypes := #[]
  staticTypes := #[]
  resolved := Array.replicate 8 none
  statics := none }

def pool4 : Array CpInfo := pool [(1, u "java/io/Serializable"), (0, .class_ 1), (0, u "java/lang/Object"), (0, .class_ 3)] 3

/-- java/io/Serializable -/
def k4 : Class := { plain "java/io/Serializable" (some 0) with
  accessFlags := 1537
  interfaces := #[]
  cf := some (fileOf pool4 2 #[] #[] 1537 4 #[] #[])
  fields := #[]
  methods := #[]
  instanceTypes := #[]
  staticTypes := #[]
  resolved := Array.replicate 8 none
  statics := none }

/-- the primitive boolean -/
def k5 : Class := { plain "boolean" none with kind := .primitive 'Z', accessFlags := 0x411 }
/-- [Z -/
def k6 : Class := { plain "[Z" (some 0) with kind := .array 5 .boolean, interfaces := #[3, 4], accessFlags := 1041 }

/-- the primitive byte -/
def k7 : Class := { plain "byte" none with kind := .primitive 'B', accessFlags := 0x411 }
/-- [B -/
def k8 : Class := { plain "[B" (some 0) with kind := .array 7 .byte, interfaces := #[3, 4], accessFlags := 1041 }

/-- the primitive int -/
def k9 : Class := { plain "int" none with kind := .primitive 'I', accessFlags := 0x411 }
/-- [I -/
def k10 : Class := { plain "[I" (some 0) with kind := .array 9 .int, interfaces := #[3, 4], accessFlags := 1041 }

def heap : Heap := #[]
def classes : Array Class := #[k0, k1, k2, k3, k4, k5, k6, k7, k8, k9, k10]
def interned : List (Array UInt16 × Addr) := []
def slotsUsed : Nat := 0
def theMethod : MethodId := ⟨1, 1⟩
def args0 : Array Value := #[.int 5, .int 5, .int 5, .int 5, .int 5]
def aboutOver (below : List Frame) : State where
  vm := { classes := classes, interned := interned.toArray }
  heap := heap
  slotsUsed := slotsUsed
  threads := #[{ frames := .invoking theMethod args0 :: below }]
def below0 : List Frame := [.native { method := ⟨0, 0⟩, args := #[] }]
def about1 : State := aboutOver below0
def p0 : Program := .bare "" "" ""
def e0 : Env := launch0.env 0 0 0
theorem w_frames : about1.frames = Frame.invoking theMethod args0 :: below0 := rfl
set_option maxRecDepth 65536 in
theorem w_args : argsFit about1.vm theMethod args0 = true := by decide +kernel
set_option maxRecDepth 65536 in
theorem w_heap : heapFits about1 = true := by decide +kernel
set_option maxRecDepth 65536 in
theorem w_runnable : about1.curStatus? = some .runnable := by decide +kernel
set_option maxRecDepth 65536 in
theorem w_alone : about1.alone = true := by decide +kernel
set_option maxRecDepth 65536 in
theorem w_named : about1.methodNamed? x = some theMethod := by decide +kernel
set_option maxRecDepth 65536 in
theorem w_hears : about1.hears theMethod below0 = true := by decide +kernel
set_option maxRecDepth 65536 in
theorem w_ripe : about1.ripe theMethod args0 below0 = true := by decide +kernel
theorem w_running : about1.status = .running := rfl
set_option maxRecDepth 65536 in
theorem w_room : about1.hasRoom e0.platform room_1 = true :=
  launch0.hasRoom_least _ room_1 (by decide +kernel) (by decide +kernel) (by decide +kernel) (by decide +kernel) (by decide +kernel) (by decide +kernel)
theorem allAtoms_all (ts : List Jvm.Cond) (a : Array Jvm.Value) (st : Jvm.State) : (allAtoms ts).before a st = ts.all (fun c => c.before a st) := by
  induction ts with
  | nil => rfl
  | cons c t ih =>
    show (Jvm.Cond.and c (allAtoms t)).before a st = _
    rw [Jvm.Cond.before_and, ih, List.all_cons]
def words1 : List Jvm.Cond := Jvm.Cond.code x code maxLocals ret :: tables_1
/-- a 'code' word, met by the world's own term for the bytes: nothing is compared byte by byte -/
theorem code_word {y : MethodName} {bytes : ByteArray} {mx : Nat} {rt : Option FieldType} {a : Array Value} {s : State} {m : MethodId} {meth : Method} {c : Code} (h1 : s.methodNamed? y = some m) (h2 : s.vm.method? m = some meth) (h3 : meth.code = some c) (h4 : c.code = bytes)
    (h5 : (c.maxLocals == mx && c.exceptionTable.isEmpty && decide (c.maxStack ≤ mostOperands) && decide (meth.sig.returnType = rt) && !meth.locks && decide (parseMethodDescriptor y.desc = some meth.sig)) = true) : (Jvm.Cond.code y bytes mx rt).before a s = true := by
  simp only [Bool.and_eq_true, beq_iff_eq, Bool.not_eq_true', decide_eq_true_eq] at h5
  obtain ⟨⟨⟨⟨⟨g1, g2⟩, g3⟩, g4⟩, g5⟩, g6⟩ := h5
  simp [Cond.before, Cond.holds, Cond.value, h1, h2, h3, h4, g1, g2, g3, g4, g5, g6]
def isCode : Jvm.Cond → Bool
  | .code _ _ _ _ => true
  | _ => false
theorem all_split {L : List Jvm.Cond} {P : Jvm.Cond → Bool} (h1 : L.all (fun c => isCode c || P c) = true) (h2 : ∀ c ∈ L.filter isCode, P c = true) : L.all P = true := by
  refine List.all_eq_true.mpr fun c hc => ?_
  have h := List.all_eq_true.mp h1 c hc
  rcases Bool.eq_false_or_eq_true (isCode c) with hi | hi
  · exact h2 c (List.mem_filter.mpr ⟨hc, hi⟩)
  · simpa [hi] using h
set_option maxRecDepth 65536 in
theorem w_c0 : (Jvm.Cond.code x code maxLocals ret).before args0 about1 = true := code_word (m := ⟨1, 1⟩) (meth := k1m1) (c := k1c1) (by decide +kernel) rfl rfl rfl (by decide +kernel)
set_option maxRecDepth 65536 in
theorem w_c1 : (Jvm.Cond.code ({ cls := "com/example/bellsplit/bellsplit/search/IntegerPartitionSearch", name := "runs", desc := "([I[Z)[I" } : Jvm.MethodName) prog_76_method_16_code (6 : Nat) (Option.some (Jvm.ClassFile.FieldType.array Jvm.ClassFile.FieldType.int))).before args0 about1 = true := code_word (m := ⟨2, 0⟩) (meth := k2m0) (c := k2c0) (by decide +kernel) rfl rfl rfl (by decide +kernel)
set_option maxRecDepth 65536 in
theorem w_c2 : (Jvm.Cond.code ({ cls := "com/example/bellsplit/bellsplit/search/IntegerPartitionSearchRunsPinLaw", name := "check", desc := "([I[I[ZII)Z" } : Jvm.MethodName) method_4_code (9 : Nat) (Option.some Jvm.ClassFile.FieldType.boolean)).before args0 about1 = true := code_word (m := ⟨1, 3⟩) (meth := k1m3) (c := k1c3) (by decide +kernel) rfl rfl rfl (by decide +kernel)
set_option maxRecDepth 65536 in
theorem w_c3 : (Jvm.Cond.code ({ cls := "com/example/bellsplit/bellsplit/search/IntegerPartitionSearchRunsPinLaw", name := "same", desc := "([I[ZII)Z" } : Jvm.MethodName) method_3_code (4 : Nat) (Option.some Jvm.ClassFile.FieldType.boolean)).before args0 about1 = true := code_word (m := ⟨1, 2⟩) (meth := k1m2) (c := k1c2) (by decide +kernel) rfl rfl rfl (by decide +kernel)
def codes1 : List Jvm.Cond := [Jvm.Cond.code x code maxLocals ret, Jvm.Cond.code ({ cls := "com/example/bellsplit/bellsplit/search/IntegerPartitionSearch", name := "runs", desc := "([I[Z)[I" } : Jvm.MethodName) prog_76_method_16_code (6 : Nat) (Option.some (Jvm.ClassFile.FieldType.array Jvm.ClassFile.FieldType.int)), Jvm.Cond.code ({ cls := "com/example/bellsplit/bellsplit/search/IntegerPartitionSearchRunsPinLaw", name := "check", desc := "([I[I[ZII)Z" } : Jvm.MethodName) method_4_code (9 : Nat) (Option.some Jvm.ClassFile.FieldType.boolean), Jvm.Cond.code ({ cls := "com/example/bellsplit/bellsplit/search/IntegerPartitionSearchRunsPinLaw", name := "same", desc := "([I[ZII)Z" } : Jvm.MethodName) method_3_code (4 : Nat) (Option.some Jvm.ClassFile.FieldType.boolean)]
set_option maxRecDepth 65536 in
theorem codes_eq : words1.filter isCode = codes1 := rfl
theorem w_codes : ∀ c ∈ words1.filter isCode, c.before args0 about1 = true := by
  rw [codes_eq]
  intro c hc
  simp only [codes1, List.mem_cons, List.not_mem_nil, or_false] at hc
  rcases hc with rfl | rfl | rfl | rfl
  · exact w_c0
  · exact w_c1
  · exact w_c2
  · exact w_c3
set_option maxRecDepth 65536 in
theorem w_t1 : words1.all (fun c => isCode c || c.before args0 about1) = true := by decide +kernel
theorem w_tables : (allAtoms (Jvm.Cond.code x code maxLocals ret :: tables_1)).before args0 about1 = true := by
  rw [allAtoms_all]
  show words1.all (fun c => c.before args0 about1) = true
  refine all_split ?_ w_codes
  rw [w_t1]
set_option maxRecDepth 65536 in
theorem w_case : (Jvm.Cond.and given_1 narrow_1).before args0 about1 = true := by decide +kernel
theorem w_applies : (headSpec (Jvm.Cond.code x code maxLocals ret :: tables_1) room_1).applies x e0.platform about1 = true :=
  (Spec.applies_iff w_frames).mpr ⟨w_running, w_runnable, w_alone, w_named, w_hears, w_ripe, w_room, w_tables⟩
theorem atStart : AtStart classFile x code maxLocals ret World_1 tables_1 room_1 Calls_1 rest_1 Pre_1 launch0 p0 e0 about1 theMethod args0 below0 :=
  ⟨lists_1, trivial, launch0.admits_env _ _ _, launch0.least_env, fairChoices_fair.cas, fairChoices_fair.clock, w_frames, w_args, w_heap, w_applies, trivial, trivial, w_case⟩
end start1
theorem witness_1 : WitnessClaimed_1 := ⟨start1.p0, start1.e0, start1.about1, start1.theMethod, start1.args0, start1.below0, start1.atStart⟩
end Jvm.Pilot.@@N@@
