import JvmDerived
import JvmDerived.Pilot.@@N@@Statement
import JvmDerived.Pilot.@@N@@Code
set_option linter.unusedVariables false
set_option linter.unusedSimpArgs false
namespace Jvm.Pilot.@@N@@
open Jvm Jvm.ClassFile Sem Op Lib Jvm.Free Jvm.Stand Jvm.LawKit Jvm.RoadKit Bundle Jvm.Pilot.@@N@@.Jvm.D
/-- from the frame (pc, ls, st) over the heap h the goal G is reached -/
def Run (p : Program) (l : Launch) (e : Env) (R : Room) (s : State) (m : MethodId) (args : Array Value) (below : List Frame) (meth : Method) (c : Code) (Z : State) (own : String) (V : Vm → Nat → Prop) (n0 : Nat) (G : State → Outcome → Prop) (h : Heap) (cells slots pc : Nat) (ls : Array Slot) (st : List Value) : Prop :=
  ∀ (vm0 : Vm) (k0 : Nat) (T : State) (L : List Loc), Stand p l e R (s.setVm vm0) m args below meth c T L cells slots → V vm0 k0 → k0 ≤ h.size → Z.Warmed39 vm0 → vm0.findClass own = some m.cls → Fr n0 L → T.heap = h →
    ∃ U o, Steps p.tables e below (T.setTop (mkF m pc ls st)) U ∧ U.status = .running ∧ Ended U below o ∧ G U o
/-- what is known of the body -/
def Cx (p : Program) (c : Code) (meth : Method) (bytes : ByteArray) (maxL : Nat) (ret : Option FieldType) (nm : String) : Prop := p.tables.exec = Jvm.exec ∧ c.code = bytes ∧ c.maxLocals = maxL ∧ meth.sig.returnType = ret ∧ meth.locks = false ∧ meth.name = nm
def plainV (s : State) (vm : Vm) (_ : Nat) : Prop := vm = s.vm
def Gq (s : State) (n0 : Nat) (rm : Room) (P : Option Value → Heap → Prop) (U : State) (o : Outcome) : Prop := ∃ v L, o = .returned v ∧ (P v U.heap ∧ Fr n0 L) ∧ FrameEnd s o U L rm.cells rm.slots
/-- a contract -/
def Con (l : Launch) (Z : State) (y : MethodName) (bytes : ByteArray) (maxL : Nat) (ret : Option FieldType) (rm : Room) (as : Array Value) (h0 : Heap) (n0 : Nat) (P : Option Value → Heap → Prop) : Prop :=
  ∀ ws : List Jvm.Cond, MetFree l y (head1 (Jvm.Cond.code y bytes maxL ret :: ws) rm) (fun a U => a = as ∧ Z.Warmed39 U.vm ∧ U.heap = h0) (fun _ _ _ _ _ => True) (fun _ U o U' => Gq U n0 rm P U' o)
section Kit
variable {p : Program} {l : Launch} {e : Env} {R : Room} {s : State} {m : MethodId} {args : Array Value} {below : List Frame} {meth : Method} {c : Code} {Z : State} {own : String} {V : Vm → Nat → Prop} {n0 : Nat} {G : State → Outcome → Prop} {h : Heap} {cells slots pc pc' : Nat} {ls ls' : Array Slot} {st st' : List Value} {bytes : ByteArray} {maxL : Nat} {ret : Option FieldType} {nm : String} {a0 : Array Value}
theorem Con.of_body {y : MethodName} {rm : Room} {as : Array Value} {h0 : Heap} {P : Option Value → Heap → Prop} (hp : plainFor y = true) (Ls : Array Slot) (hent : ∀ m, entryFrame m as maxL = mkF m 0 Ls [])
    (body : ∀ p e s m below meth c, Cx p c meth bytes maxL ret y.name → Run p l e rm s m as below meth c Z y.cls (plainV s) n0 (Gq s n0 rm P) h0 0 0 0 Ls []) : Con l Z y bytes maxL ret rm as h0 n0 P := by
  intro ws
  refine MetFree.of_bodySF hp hisR ?_
  intro p e s m args below meth c s₁ Bd hml0 hP hK
  obtain ⟨rfl, hZ, hh⟩ := hP
  have hown : s.vm.findClass y.cls = some m.cls := findClass_of_methodNamed Bd.named
  have hnm := (name_of_methodNamed Bd.named Bd.method).1
  obtain ⟨U, o, h1, h2, h3, h4⟩ := body p e s m below meth c ⟨Bd.exec, Bd.bytes, hml0, Bd.returns, BodyLoose.notSynchronized Bd, hnm⟩ s.vm 0 s₁ [] (Stand.of_body Bd) rfl (Nat.zero_le _) hZ hown (Fr.nil n0) (by rw [← hh, Bd.state]; rfl)
  exact ⟨U, o, castTop (hent m) h1, h2, h3, h4⟩
theorem Run.go (hs : ∀ (T t : State), At T m c below → Steps p.tables e below (T.setTop (mkF m pc' ls' st')) t → Steps p.tables e below (T.setTop (mkF m pc ls st)) t) (k : Run p l e R s m args below meth c Z own V n0 G h cells slots pc' ls' st') : Run p l e R s m args below meth c Z own V n0 G h cells slots pc ls st :=
  fun vm0 k0 T L X hV hk hZ ho N eT => by
    obtain ⟨U, o, h1, r⟩ := k vm0 k0 T L X hV hk hZ ho N eT
    exact ⟨U, o, hs T U X.here h1, r⟩
theorem r_iadd {x y z : Int32} (C : Cx p c meth bytes maxL ret nm) (hd : decode bytes pc = .ok (.iadd, 1)) (hp : pc + 1 = pc') (hz : x + y = z) (k : Run p l e R s m args below meth c Z own V n0 G h cells slots pc' ls (.int z :: st)) : Run p l e R s m args below meth c Z own V n0 G h cells slots pc ls (.int y :: .int x :: st) := by
  subst hp hz
  exact k.go fun T t A q => XS.iadd (g := mkF m pc ls (.int y :: .int x :: st)) A C.1 rfl (hb C.2.1 hd) rfl q
theorem r_isub {x y z : Int32} (C : Cx p c meth bytes maxL ret nm) (hd : decode bytes pc = .ok (.isub, 1)) (hp : pc + 1 = pc') (hz : x - y = z) (k : Run p l e R s m args below meth c Z own V n0 G h cells slots pc' ls (.int z :: st)) : Run p l e R s m args below meth c Z own V n0 G h cells slots pc ls (.int y :: .int x :: st) := by
  subst hp hz
  exact k.go fun T t A q => XS.isub (g := mkF m pc ls (.int y :: .int x :: st)) A C.1 rfl (hb C.2.1 hd) rfl q
theorem r_imul {x y z : Int32} (C : Cx p c meth bytes maxL ret nm) (hd : decode bytes pc = .ok (.imul, 1)) (hp : pc + 1 = pc') (hz : x * y = z) (k : Run p l e R s m args below meth c Z own V n0 G h cells slots pc' ls (.int z :: st)) : Run p l e R s m args below meth c Z own V n0 G h cells slots pc ls (.int y :: .int x :: st) := by
  subst hp hz
  exact k.go fun T t A q => XS.imul (g := mkF m pc ls (.int y :: .int x :: st)) A C.1 rfl (hb C.2.1 hd) rfl q
theorem r_iand {x y z : Int32} (C : Cx p c meth bytes maxL ret nm) (hd : decode bytes pc = .ok (.iand, 1)) (hp : pc + 1 = pc') (hz : x &&& y = z) (k : Run p l e R s m args below meth c Z own V n0 G h cells slots pc' ls (.int z :: st)) : Run p l e R s m args below meth c Z own V n0 G h cells slots pc ls (.int y :: .int x :: st) := by
  subst hp hz
  exact k.go fun T t A q => XS.iand (g := mkF m pc ls (.int y :: .int x :: st)) A C.1 rfl (hb C.2.1 hd) rfl q
theorem r_ixor {x y z : Int32} (C : Cx p c meth bytes maxL ret nm) (hd : decode bytes pc = .ok (.ixor, 1)) (hp : pc + 1 = pc') (hz : x ^^^ y = z) (k : Run p l e R s m args below meth c Z own V n0 G h cells slots pc' ls (.int z :: st)) : Run p l e R s m args below meth c Z own V n0 G h cells slots pc ls (.int y :: .int x :: st) := by
  subst hp hz
  exact k.go fun T t A q => XT.ixor (g := mkF m pc ls (.int y :: .int x :: st)) A C.1 rfl (hb C.2.1 hd) rfl q
theorem r_ior {x y z : Int32} (C : Cx p c meth bytes maxL ret nm) (hd : decode bytes pc = .ok (.ior, 1)) (hp : pc + 1 = pc') (hz : x ||| y = z) (k : Run p l e R s m args below meth c Z own V n0 G h cells slots pc' ls (.int z :: st)) : Run p l e R s m args below meth c Z own V n0 G h cells slots pc ls (.int y :: .int x :: st) := by
  subst hp hz
  exact k.go fun T t A q => XT.ior (g := mkF m pc ls (.int y :: .int x :: st)) A C.1 rfl (hb C.2.1 hd) rfl q
theorem r_ishl {x y z : Int32} (C : Cx p c meth bytes maxL ret nm) (hd : decode bytes pc = .ok (.ishl, 1)) (hp : pc + 1 = pc') (hz : x <<< (y &&& 31) = z) (k : Run p l e R s m args below meth c Z own V n0 G h cells slots pc' ls (.int z :: st)) : Run p l e R s m args below meth c Z own V n0 G h cells slots pc ls (.int y :: .int x :: st) := by
  subst hp hz
  exact k.go fun T t A q => XT.ishl (g := mkF m pc ls (.int y :: .int x :: st)) A C.1 rfl (hb C.2.1 hd) rfl q
theorem r_ishr {x y z : Int32} (C : Cx p c meth bytes maxL ret nm) (hd : decode bytes pc = .ok (.ishr, 1)) (hp : pc + 1 = pc') (hz : x >>> (y &&& 31) = z) (k : Run p l e R s m args below meth c Z own V n0 G h cells slots pc' ls (.int z :: st)) : Run p l e R s m args below meth c Z own V n0 G h cells slots pc ls (.int y :: .int x :: st) := by
  subst hp hz
  exact k.go fun T t A q => XT.ishr (g := mkF m pc ls (.int y :: .int x :: st)) A C.1 rfl (hb C.2.1 hd) rfl q
theorem r_iushr {x y z : Int32} (C : Cx p c meth bytes maxL ret nm) (hd : decode bytes pc = .ok (.iushr, 1)) (hp : pc + 1 = pc') (hz : XT.ushr x y = z) (k : Run p l e R s m args below meth c Z own V n0 G h cells slots pc' ls (.int z :: st)) : Run p l e R s m args below meth c Z own V n0 G h cells slots pc ls (.int y :: .int x :: st) := by
  subst hp hz
  exact k.go fun T t A q => XT.iushr (g := mkF m pc ls (.int y :: .int x :: st)) A C.1 rfl (hb C.2.1 hd) rfl q
theorem r_ladd {x y z : Int64} (C : Cx p c meth bytes maxL ret nm) (hd : decode bytes pc = .ok (.ladd, 1)) (hp : pc + 1 = pc') (hz : x + y = z) (k : Run p l e R s m args below meth c Z own V n0 G h cells slots pc' ls (.long z :: st)) : Run p l e R s m args below meth c Z own V n0 G h cells slots pc ls (.long y :: .long x :: st) := by
  subst hp hz
  exact k.go fun T t A q => XT.ladd (g := mkF m pc ls (.long y :: .long x :: st)) A C.1 rfl (hb C.2.1 hd) rfl q
theorem r_lsub {x y z : Int64} (C : Cx p c meth bytes maxL ret nm) (hd : decode bytes pc = .ok (.lsub, 1)) (hp : pc + 1 = pc') (hz : x - y = z) (k : Run p l e R s m args below meth c Z own V n0 G h cells slots pc' ls (.long z :: st)) : Run p l e R s m args below meth c Z own V n0 G h cells slots pc ls (.long y :: .long x :: st) := by
  subst hp hz
  exact k.go fun T t A q => XT.lsub (g := mkF m pc ls (.long y :: .long x :: st)) A C.1 rfl (hb C.2.1 hd) rfl q
theorem r_lmul {x y z : Int64} (C : Cx p c meth bytes maxL ret nm) (hd : decode bytes pc = .ok (.lmul, 1)) (hp : pc + 1 = pc') (hz : x * y = z) (k : Run p l e R s m args below meth c Z own V n0 G h cells slots pc' ls (.long z :: st)) : Run p l e R s m args below meth c Z own V n0 G h cells slots pc ls (.long y :: .long x :: st) := by
  subst hp hz
  exact k.go fun T t A q => XT.lmul (g := mkF m pc ls (.long y :: .long x :: st)) A C.1 rfl (hb C.2.1 hd) rfl q
theorem r_land {x y z : Int64} (C : Cx p c meth bytes maxL ret nm) (hd : decode bytes pc = .ok (.land, 1)) (hp : pc + 1 = pc') (hz : x &&& y = z) (k : Run p l e R s m args below meth c Z own V n0 G h cells slots pc' ls (.long z :: st)) : Run p l e R s m args below meth c Z own V n0 G h cells slots pc ls (.long y :: .long x :: st) := by
  subst hp hz
  exact k.go fun T t A q => XT.land (g := mkF m pc ls (.long y :: .long x :: st)) A C.1 rfl (hb C.2.1 hd) rfl q
theorem r_lor {x y z : Int64} (C : Cx p c meth bytes maxL ret nm) (hd : decode bytes pc = .ok (.lor, 1)) (hp : pc + 1 = pc') (hz : x ||| y = z) (k : Run p l e R s m args below meth c Z own V n0 G h cells slots pc' ls (.long z :: st)) : Run p l e R s m args below meth c Z own V n0 G h cells slots pc ls (.long y :: .long x :: st) := by
  subst hp hz
  exact k.go fun T t A q => XT.lor (g := mkF m pc ls (.long y :: .long x :: st)) A C.1 rfl (hb C.2.1 hd) rfl q
theorem r_lxor {x y z : Int64} (C : Cx p c meth bytes maxL ret nm) (hd : decode bytes pc = .ok (.lxor, 1)) (hp : pc + 1 = pc') (hz : x ^^^ y = z) (k : Run p l e R s m args below meth c Z own V n0 G h cells slots pc' ls (.long z :: st)) : Run p l e R s m args below meth c Z own V n0 G h cells slots pc ls (.long y :: .long x :: st) := by
  subst hp hz
  exact k.go fun T t A q => XT.lxor (g := mkF m pc ls (.long y :: .long x :: st)) A C.1 rfl (hb C.2.1 hd) rfl q
theorem r_lshl {x z : Int64} {y : Int32} (C : Cx p c meth bytes maxL ret nm) (hd : decode bytes pc = .ok (.lshl, 1)) (hp : pc + 1 = pc') (hz : x <<< (y.toInt64 &&& 63) = z) (k : Run p l e R s m args below meth c Z own V n0 G h cells slots pc' ls (.long z :: st)) : Run p l e R s m args below meth c Z own V n0 G h cells slots pc ls (.int y :: .long x :: st) := by
  subst hp hz
  exact k.go fun T t A q => XT.lshl (g := mkF m pc ls (.int y :: .long x :: st)) A C.1 rfl (hb C.2.1 hd) rfl q
theorem r_lshr {x z : Int64} {y : Int32} (C : Cx p c meth bytes maxL ret nm) (hd : decode bytes pc = .ok (.lshr, 1)) (hp : pc + 1 = pc') (hz : x >>> (y.toInt64 &&& 63) = z) (k : Run p l e R s m args below meth c Z own V n0 G h cells slots pc' ls (.long z :: st)) : Run p l e R s m args below meth c Z own V n0 G h cells slots pc ls (.int y :: .long x :: st) := by
  subst hp hz
  exact k.go fun T t A q => XT.lshr (g := mkF m pc ls (.int y :: .long x :: st)) A C.1 rfl (hb C.2.1 hd) rfl q
theorem r_lushr {x z : Int64} {y : Int32} (C : Cx p c meth bytes maxL ret nm) (hd : decode bytes pc = .ok (.lushr, 1)) (hp : pc + 1 = pc') (hz : XT.ushrL x y = z) (k : Run p l e R s m args below meth c Z own V n0 G h cells slots pc' ls (.long z :: st)) : Run p l e R s m args below meth c Z own V n0 G h cells slots pc ls (.int y :: .long x :: st) := by
  subst hp hz
  exact k.go fun T t A q => XT.lushr (g := mkF m pc ls (.int y :: .long x :: st)) A C.1 rfl (hb C.2.1 hd) rfl q
theorem irem_mod (x y : Int32) : x - (x / y) * y = x % y := by
  have h : ∀ a b : Int, a - a.tdiv b * b = a.tmod b := fun a b => by have := Int.mul_tdiv_add_tmod a b; rw [Int.mul_comm] at this; omega
  by_cases hy : y = -1
  · subst hy
    apply Int32.toInt_inj.mp
    have h1 := c_isub x ((x / -1) * -1)
    have h2 := c_imul (x / -1) (-1)
    have h3 := c_idivM x (-1) rfl
    have h4 : (x % (-1 : Int32)).toInt = 0 := by rw [Int32.toInt_mod]; show x.toInt.tmod (-1) = 0; simp
    have h5 := rng32 (x - (x / -1) * -1)
    have h6 : ((-1 : Int32)).toInt = -1 := by decide
    rw [h6] at h2
    rw [h4]
    omega
  · apply Int32.toInt_inj.mp
    have h1 := c_isub x ((x / y) * y)
    have h2 := c_imul (x / y) y
    have h3 := Int32.toInt_div_of_ne_right x y hy
    have h4 := Int32.toInt_mod x y
    have h5 := rng32 (x - (x / y) * y)
    have h6 := rng32 (x % y)
    have h7 := h x.toInt y.toInt
    rw [h3] at h2
    rw [← h7] at h4
    omega
theorem r_idiv {x y z : Int32} (C : Cx p c meth bytes maxL ret nm) (hd : decode bytes pc = .ok (.idiv, 1)) (hp : pc + 1 = pc') (hy : y ≠ 0) (hz : x / y = z) (k : Run p l e R s m args below meth c Z own V n0 G h cells slots pc' ls (.int z :: st)) : Run p l e R s m args below meth c Z own V n0 G h cells slots pc ls (.int y :: .int x :: st) := by
  subst hp hz
  exact k.go fun T t A q => XS.idiv (g := mkF m pc ls (.int y :: .int x :: st)) A C.1 rfl (hb C.2.1 hd) rfl hy q
theorem r_irem {x y z : Int32} (C : Cx p c meth bytes maxL ret nm) (hd : decode bytes pc = .ok (.irem, 1)) (hp : pc + 1 = pc') (hy : y ≠ 0) (hz : x % y = z) (k : Run p l e R s m args below meth c Z own V n0 G h cells slots pc' ls (.int z :: st)) : Run p l e R s m args below meth c Z own V n0 G h cells slots pc ls (.int y :: .int x :: st) := by
  subst hp hz
  exact k.go fun T t A q => XS.irem (g := mkF m pc ls (.int y :: .int x :: st)) A C.1 rfl (hb C.2.1 hd) rfl hy (by rw [irem_mod]; exact q)
theorem r_ldiv {x y z : Int64} (C : Cx p c meth bytes maxL ret nm) (hd : decode bytes pc = .ok (.ldiv, 1)) (hp : pc + 1 = pc') (hy : y ≠ 0) (hz : x / y = z) (k : Run p l e R s m args below meth c Z own V n0 G h cells slots pc' ls (.long z :: st)) : Run p l e R s m args below meth c Z own V n0 G h cells slots pc ls (.long y :: .long x :: st) := by
  subst hp hz
  exact k.go fun T t A q => XT.ldiv (g := mkF m pc ls (.long y :: .long x :: st)) A C.1 rfl (hb C.2.1 hd) rfl hy q
theorem r_lrem {x y z : Int64} (C : Cx p c meth bytes maxL ret nm) (hd : decode bytes pc = .ok (.lrem, 1)) (hp : pc + 1 = pc') (hy : y ≠ 0) (hz : x % y = z) (k : Run p l e R s m args below meth c Z own V n0 G h cells slots pc' ls (.long z :: st)) : Run p l e R s m args below meth c Z own V n0 G h cells slots pc ls (.long y :: .long x :: st) := by
  subst hp hz
  exact k.go fun T t A q => XT.lrem (g := mkF m pc ls (.long y :: .long x :: st)) A C.1 rfl (hb C.2.1 hd) rfl hy (by rw [lrem_mod]; exact q)
theorem r_ineg {x z : Int32} (C : Cx p c meth bytes maxL ret nm) (hd : decode bytes pc = .ok (.ineg, 1)) (hp : pc + 1 = pc') (hz : -x = z) (k : Run p l e R s m args below meth c Z own V n0 G h cells slots pc' ls (.int z :: st)) : Run p l e R s m args below meth c Z own V n0 G h cells slots pc ls (.int x :: st) := by
  subst hp hz
  exact k.go fun T t A q => XS.ineg (g := mkF m pc ls (.int x :: st)) A C.1 rfl (hb C.2.1 hd) rfl q
theorem r_lneg {x z : Int64} (C : Cx p c meth bytes maxL ret nm) (hd : decode bytes pc = .ok (.lneg, 1)) (hp : pc + 1 = pc') (hz : -x = z) (k : Run p l e R s m args below meth c Z own V n0 G h cells slots pc' ls (.long z :: st)) : Run p l e R s m args below meth c Z own V n0 G h cells slots pc ls (.long x :: st) := by
  subst hp hz
  exact k.go fun T t A q => XT.lneg (g := mkF m pc ls (.long x :: st)) A C.1 rfl (hb C.2.1 hd) rfl q
theorem r_i2l {x : Int32} {z : Int64} (C : Cx p c meth bytes maxL ret nm) (hd : decode bytes pc = .ok (.i2l, 1)) (hp : pc + 1 = pc') (hz : x.toInt64 = z) (k : Run p l e R s m args below meth c Z own V n0 G h cells slots pc' ls (.long z :: st)) : Run p l e R s m args below meth c Z own V n0 G h cells slots pc ls (.int x :: st) := by
  subst hp hz
  exact k.go fun T t A q => XT.i2l (g := mkF m pc ls (.int x :: st)) A C.1 rfl (hb C.2.1 hd) rfl q
theorem r_l2i {x : Int64} {z : Int32} (C : Cx p c meth bytes maxL ret nm) (hd : decode bytes pc = .ok (.l2i, 1)) (hp : pc + 1 = pc') (hz : x.toInt32 = z) (k : Run p l e R s m args below meth c Z own V n0 G h cells slots pc' ls (.int z :: st)) : Run p l e R s m args below meth c Z own V n0 G h cells slots pc ls (.long x :: st) := by
  subst hp hz
  exact k.go fun T t A q => XT.l2i (g := mkF m pc ls (.long x :: st)) A C.1 rfl (hb C.2.1 hd) rfl q
theorem r_i2b {x : Int32} {z : Int32} (C : Cx p c meth bytes maxL ret nm) (hd : decode bytes pc = .ok (.i2b, 1)) (hp : pc + 1 = pc') (hz : x.toInt8.toInt32 = z) (k : Run p l e R s m args below meth c Z own V n0 G h cells slots pc' ls (.int z :: st)) : Run p l e R s m args below meth c Z own V n0 G h cells slots pc ls (.int x :: st) := by
  subst hp hz
  exact k.go fun T t A q => XT.i2b (g := mkF m pc ls (.int x :: st)) A C.1 rfl (hb C.2.1 hd) rfl q
theorem r_i2c {x : Int32} {z : Int32} (C : Cx p c meth bytes maxL ret nm) (hd : decode bytes pc = .ok (.i2c, 1)) (hp : pc + 1 = pc') (hz : x.toUInt32.toUInt16.toUInt32.toInt32 = z) (k : Run p l e R s m args below meth c Z own V n0 G h cells slots pc' ls (.int z :: st)) : Run p l e R s m args below meth c Z own V n0 G h cells slots pc ls (.int x :: st) := by
  subst hp hz
  exact k.go fun T t A q => XT.i2c (g := mkF m pc ls (.int x :: st)) A C.1 rfl (hb C.2.1 hd) rfl q
theorem r_i2s {x : Int32} {z : Int32} (C : Cx p c meth bytes maxL ret nm) (hd : decode bytes pc = .ok (.i2s, 1)) (hp : pc + 1 = pc') (hz : x.toInt16.toInt32 = z) (k : Run p l e R s m args below meth c Z own V n0 G h cells slots pc' ls (.int z :: st)) : Run p l e R s m args below meth c Z own V n0 G h cells slots pc ls (.int x :: st) := by
  subst hp hz
  exact k.go fun T t A q => XT.i2s (g := mkF m pc ls (.int x :: st)) A C.1 rfl (hb C.2.1 hd) rfl q
theorem r_iconst {i : Int} {z : Int32} (C : Cx p c meth bytes maxL ret nm) (hd : decode bytes pc = .ok (.iconst i, 1)) (hp : pc + 1 = pc') (hz : Int32.ofInt i = z) (k : Run p l e R s m args below meth c Z own V n0 G h cells slots pc' ls (.int z :: st)) : Run p l e R s m args below meth c Z own V n0 G h cells slots pc ls st := by
  subst hp hz
  exact k.go fun T t A q => XS.iconst (g := mkF m pc ls st) A C.1 rfl (hb C.2.1 hd) q
theorem r_bipush {i : Int} {z : Int32} (C : Cx p c meth bytes maxL ret nm) (hd : decode bytes pc = .ok (.bipush i, 2)) (hp : pc + 2 = pc') (hz : (Int8.ofInt i).toInt32 = z) (k : Run p l e R s m args below meth c Z own V n0 G h cells slots pc' ls (.int z :: st)) : Run p l e R s m args below meth c Z own V n0 G h cells slots pc ls st := by
  subst hp hz
  exact k.go fun T t A q => XS.bipush (g := mkF m pc ls st) A C.1 rfl (hb C.2.1 hd) q
theorem r_sipush {i : Int} {z : Int32} (C : Cx p c meth bytes maxL ret nm) (hd : decode bytes pc = .ok (.sipush i, 3)) (hp : pc + 3 = pc') (hz : (Int16.ofInt i).toInt32 = z) (k : Run p l e R s m args below meth c Z own V n0 G h cells slots pc' ls (.int z :: st)) : Run p l e R s m args below meth c Z own V n0 G h cells slots pc ls st := by
  subst hp hz
  exact k.go fun T t A q => XS.sipush (g := mkF m pc ls st) A C.1 rfl (hb C.2.1 hd) q
theorem r_lconst {i : Fin 2} {z : Int64} (C : Cx p c meth bytes maxL ret nm) (hd : decode bytes pc = .ok (.lconst i, 1)) (hp : pc + 1 = pc') (hz : Int64.ofNat i = z) (k : Run p l e R s m args below meth c Z own V n0 G h cells slots pc' ls (.long z :: st)) : Run p l e R s m args below meth c Z own V n0 G h cells slots pc ls st := by
  subst hp hz
  exact k.go fun T t A q => XT.lconst (g := mkF m pc ls st) A C.1 rfl (hb C.2.1 hd) q
theorem r_aconst_null  (C : Cx p c meth bytes maxL ret nm) (hd : decode bytes pc = .ok (.aconst_null, 1)) (hp : pc + 1 = pc')  (k : Run p l e R s m args below meth c Z own V n0 G h cells slots pc' ls (.null :: st)) : Run p l e R s m args below meth c Z own V n0 G h cells slots pc ls st := by
  subst hp
  exact k.go fun T t A q => XS.aconstNull (g := mkF m pc ls st) A C.1 rfl (hb C.2.1 hd) q
theorem r_iload_n {i : Fin 4} {x : Int32} (C : Cx p c meth bytes maxL ret nm) (hd : decode bytes pc = .ok (.iload_n i, 1)) (hp : pc + 1 = pc') (hl : ls[i.val]? = some (.val (.int x))) (k : Run p l e R s m args below meth c Z own V n0 G h cells slots pc' ls (.int x :: st)) : Run p l e R s m args below meth c Z own V n0 G h cells slots pc ls st := by
  subst hp
  exact k.go fun T t A q => XS.iloadN (g := mkF m pc ls st) A C.1 rfl (hb C.2.1 hd) hl q
theorem r_iload {i : Nat} {x : Int32} (C : Cx p c meth bytes maxL ret nm) (hd : decode bytes pc = .ok (.iload i, 2)) (hp : pc + 2 = pc') (hl : ls[i]? = some (.val (.int x))) (k : Run p l e R s m args below meth c Z own V n0 G h cells slots pc' ls (.int x :: st)) : Run p l e R s m args below meth c Z own V n0 G h cells slots pc ls st := by
  subst hp
  exact k.go fun T t A q => XS.iload (g := mkF m pc ls st) A C.1 rfl (hb C.2.1 hd) hl q
theorem r_istore_n {i : Fin 4} {x : Int32} (C : Cx p c meth bytes maxL ret nm) (hd : decode bytes pc = .ok (.istore_n i, 1)) (hp : pc + 1 = pc') (hl : storeLocals ls i.val (.int x) = some ls') (k : Run p l e R s m args below meth c Z own V n0 G h cells slots pc' ls' st) : Run p l e R s m args below meth c Z own V n0 G h cells slots pc ls (.int x :: st) := by
  subst hp
  exact k.go fun T t A q => XS.istoreN (g := mkF m pc ls (.int x :: st)) A C.1 rfl (hb C.2.1 hd) rfl hl q
theorem r_istore {i : Nat} {x : Int32} (C : Cx p c meth bytes maxL ret nm) (hd : decode bytes pc = .ok (.istore i, 2)) (hp : pc + 2 = pc') (hl : storeLocals ls i (.int x) = some ls') (k : Run p l e R s m args below meth c Z own V n0 G h cells slots pc' ls' st) : Run p l e R s m args below meth c Z own V n0 G h cells slots pc ls (.int x :: st) := by
  subst hp
  exact k.go fun T t A q => XS.istore (g := mkF m pc ls (.int x :: st)) A C.1 rfl (hb C.2.1 hd) rfl hl q
theorem r_lload_n {i : Fin 4} {x : Int64} (C : Cx p c meth bytes maxL ret nm) (hd : decode bytes pc = .ok (.lload_n i, 1)) (hp : pc + 1 = pc') (hl : ls[i.val]? = some (.val (.long x))) (k : Run p l e R s m args below meth c Z own V n0 G h cells slots pc' ls (.long x :: st)) : Run p l e R s m args below meth c Z own V n0 G h cells slots pc ls st := by
  subst hp
  exact k.go fun T t A q => XT.lloadN (g := mkF m pc ls st) A C.1 rfl (hb C.2.1 hd) hl q
theorem r_lload {i : Nat} {x : Int64} (C : Cx p c meth bytes maxL ret nm) (hd : decode bytes pc = .ok (.lload i, 2)) (hp : pc + 2 = pc') (hl : ls[i]? = some (.val (.long x))) (k : Run p l e R s m args below meth c Z own V n0 G h cells slots pc' ls (.long x :: st)) : Run p l e R s m args below meth c Z own V n0 G h cells slots pc ls st := by
  subst hp
  exact k.go fun T t A q => XT.lload (g := mkF m pc ls st) A C.1 rfl (hb C.2.1 hd) hl q
theorem r_lstore_n {i : Fin 4} {x : Int64} (C : Cx p c meth bytes maxL ret nm) (hd : decode bytes pc = .ok (.lstore_n i, 1)) (hp : pc + 1 = pc') (hl : storeLocals ls i.val (.long x) = some ls') (k : Run p l e R s m args below meth c Z own V n0 G h cells slots pc' ls' st) : Run p l e R s m args below meth c Z own V n0 G h cells slots pc ls (.long x :: st) := by
  subst hp
  exact k.go fun T t A q => XT.lstoreN (g := mkF m pc ls (.long x :: st)) A C.1 rfl (hb C.2.1 hd) rfl hl q
theorem r_lstore {i : Nat} {x : Int64} (C : Cx p c meth bytes maxL ret nm) (hd : decode bytes pc = .ok (.lstore i, 2)) (hp : pc + 2 = pc') (hl : storeLocals ls i (.long x) = some ls') (k : Run p l e R s m args below meth c Z own V n0 G h cells slots pc' ls' st) : Run p l e R s m args below meth c Z own V n0 G h cells slots pc ls (.long x :: st) := by
  subst hp
  exact k.go fun T t A q => XT.lstore (g := mkF m pc ls (.long x :: st)) A C.1 rfl (hb C.2.1 hd) rfl hl q
theorem r_aload_n {i : Fin 4} {x : Value} (C : Cx p c meth bytes maxL ret nm) (hd : decode bytes pc = .ok (.aload_n i, 1)) (hp : pc + 1 = pc') (hl : ls[i.val]? = some (.val x)) (hv : x.isRef = true) (k : Run p l e R s m args below meth c Z own V n0 G h cells slots pc' ls (x :: st)) : Run p l e R s m args below meth c Z own V n0 G h cells slots pc ls st := by
  subst hp
  exact k.go fun T t A q => XS.aloadN (g := mkF m pc ls st) A C.1 rfl (hb C.2.1 hd) hl hv q
theorem r_aload {i : Nat} {x : Value} (C : Cx p c meth bytes maxL ret nm) (hd : decode bytes pc = .ok (.aload i, 2)) (hp : pc + 2 = pc') (hl : ls[i]? = some (.val x)) (hv : x.isRef = true) (k : Run p l e R s m args below meth c Z own V n0 G h cells slots pc' ls (x :: st)) : Run p l e R s m args below meth c Z own V n0 G h cells slots pc ls st := by
  subst hp
  exact k.go fun T t A q => XS.aload (g := mkF m pc ls st) A C.1 rfl (hb C.2.1 hd) hl hv q
theorem r_astore_n {i : Fin 4} {x : Value} (C : Cx p c meth bytes maxL ret nm) (hd : decode bytes pc = .ok (.astore_n i, 1)) (hp : pc + 1 = pc') (hv : x.isRef = true) (hl : storeLocals ls i.val x = some ls') (k : Run p l e R s m args below meth c Z own V n0 G h cells slots pc' ls' st) : Run p l e R s m args below meth c Z own V n0 G h cells slots pc ls (x :: st) := by
  subst hp
  exact k.go fun T t A q => XS.astoreN (g := mkF m pc ls (x :: st)) A C.1 rfl (hb C.2.1 hd) rfl hv hl q
theorem r_astore {i : Nat} {x : Value} (C : Cx p c meth bytes maxL ret nm) (hd : decode bytes pc = .ok (.astore i, 2)) (hp : pc + 2 = pc') (hv : x.isRef = true) (hl : storeLocals ls i x = some ls') (k : Run p l e R s m args below meth c Z own V n0 G h cells slots pc' ls' st) : Run p l e R s m args below meth c Z own V n0 G h cells slots pc ls (x :: st) := by
  subst hp
  exact k.go fun T t A q => XS.astore (g := mkF m pc ls (x :: st)) A C.1 rfl (hb C.2.1 hd) rfl hv hl q
theorem r_iinc {i : Nat} {cst : Int} {x z : Int32} (C : Cx p c meth bytes maxL ret nm) (hd : decode bytes pc = .ok (.iinc i cst, 3)) (hp : pc + 3 = pc') (hl : ls[i]? = some (.val (.int x))) (hz : x + Int32.ofInt cst = z) (hl' : storeLocals ls i (.int z) = some ls') (k : Run p l e R s m args below meth c Z own V n0 G h cells slots pc' ls' st) : Run p l e R s m args below meth c Z own V n0 G h cells slots pc ls st := by
  subst hp hz
  exact k.go fun T t A q => XS.iinc (g := mkF m pc ls st) A C.1 rfl (hb C.2.1 hd) hl hl' q
theorem r_pop {x : Value} (C : Cx p c meth bytes maxL ret nm) (hd : decode bytes pc = .ok (.pop, 1)) (hp : pc + 1 = pc') (hc : x.category = 1) (k : Run p l e R s m args below meth c Z own V n0 G h cells slots pc' ls st) : Run p l e R s m args below meth c Z own V n0 G h cells slots pc ls (x :: st) := by
  subst hp
  exact k.go fun T t A q => XT.pop (g := mkF m pc ls (x :: st)) A C.1 rfl (hb C.2.1 hd) rfl hc q
theorem r_dup {x : Value} (C : Cx p c meth bytes maxL ret nm) (hd : decode bytes pc = .ok (.dup, 1)) (hp : pc + 1 = pc') (hc : x.category = 1) (k : Run p l e R s m args below meth c Z own V n0 G h cells slots pc' ls (x :: x :: st)) : Run p l e R s m args below meth c Z own V n0 G h cells slots pc ls (x :: st) := by
  subst hp
  exact k.go fun T t A q => XS.dup (g := mkF m pc ls (x :: st)) A C.1 rfl (hb C.2.1 hd) rfl hc q
theorem r_dup_x1 {x y : Value} (C : Cx p c meth bytes maxL ret nm) (hd : decode bytes pc = .ok (.dup_x1, 1)) (hp : pc + 1 = pc') (hc : x.category = 1) (hc' : y.category = 1) (k : Run p l e R s m args below meth c Z own V n0 G h cells slots pc' ls (x :: y :: x :: st)) : Run p l e R s m args below meth c Z own V n0 G h cells slots pc ls (x :: y :: st) := by
  subst hp
  exact k.go fun T t A q => XT.dupX1 (g := mkF m pc ls (x :: y :: st)) A C.1 rfl (hb C.2.1 hd) rfl hc hc' q
theorem r_dup2 {x y : Value} (C : Cx p c meth bytes maxL ret nm) (hd : decode bytes pc = .ok (.dup2, 1)) (hp : pc + 1 = pc') (hc : x.category = 1) (hc' : y.category = 1) (k : Run p l e R s m args below meth c Z own V n0 G h cells slots pc' ls (x :: y :: x :: y :: st)) : Run p l e R s m args below meth c Z own V n0 G h cells slots pc ls (x :: y :: st) := by
  subst hp
  exact k.go fun T t A q => XT.dup2 (g := mkF m pc ls (x :: y :: st)) A C.1 rfl (hb C.2.1 hd) rfl hc hc' q
theorem r_dup2L {x : Int64} (C : Cx p c meth bytes maxL ret nm) (hd : decode bytes pc = .ok (.dup2, 1)) (hp : pc + 1 = pc')  (k : Run p l e R s m args below meth c Z own V n0 G h cells slots pc' ls (.long x :: .long x :: st)) : Run p l e R s m args below meth c Z own V n0 G h cells slots pc ls (.long x :: st) := by
  subst hp
  exact k.go fun T t A q => XT.dup2L (g := mkF m pc ls (.long x :: st)) A C.1 rfl (hb C.2.1 hd) rfl q
theorem toN {a : Nat} {o : Int} {b : Nat} (h : (a : Int) + o = (b : Int)) : 0 ≤ (a : Int) + o ∧ ((a : Int) + o).toNat = b := by omega
theorem r_goto {o : Int} (C : Cx p c meth bytes maxL ret nm) (hd : decode bytes pc = .ok (.goto o, 3)) (hp : (pc : Int) + o = (pc' : Int)) (k : Run p l e R s m args below meth c Z own V n0 G h cells slots pc' ls st) : Run p l e R s m args below meth c Z own V n0 G h cells slots pc ls st :=
  k.go fun T t A q => XS.goto (g := mkF m pc ls st) A C.1 rfl (pc0 := pc) (pc' := pc') rfl (hb C.2.1 hd) (toN hp).1 (toN hp).2 q
theorem r_icmp {x y : Int32} {cd : ClassFile.Cond} {o : Int} {pcT pcF : Nat} (C : Cx p c meth bytes maxL ret nm) (hd : decode bytes pc = .ok (.if_icmp cd o, 3)) (hT : (pc : Int) + o = (pcT : Int)) (hF : pc + 3 = pcF) (kT : if_icmp.holds cd x y = true → Run p l e R s m args below meth c Z own V n0 G h cells slots pcT ls st) (kF : if_icmp.holds cd x y = false → Run p l e R s m args below meth c Z own V n0 G h cells slots pcF ls st) : Run p l e R s m args below meth c Z own V n0 G h cells slots pc ls (.int y :: .int x :: st) := by
  subst hF
  cases hc : if_icmp.holds cd x y
  · exact (kF hc).go fun T t A q => XS.icmpNo (g := mkF m pc ls (.int y :: .int x :: st)) A C.1 rfl (hb C.2.1 hd) rfl hc q
  · exact (kT hc).go fun T t A q => XS.icmpYes (g := mkF m pc ls (.int y :: .int x :: st)) A C.1 rfl (pc0 := pc) (pc' := pcT) rfl (hb C.2.1 hd) rfl hc (toN hT).1 (toN hT).2 q
theorem r_if {x : Int32} {cd : ClassFile.Cond} {o : Int} {pcT pcF : Nat} (C : Cx p c meth bytes maxL ret nm) (hd : decode bytes pc = .ok (.ifCond cd o, 3)) (hT : (pc : Int) + o = (pcT : Int)) (hF : pc + 3 = pcF) (kT : ifCond.holds cd x = true → Run p l e R s m args below meth c Z own V n0 G h cells slots pcT ls st) (kF : ifCond.holds cd x = false → Run p l e R s m args below meth c Z own V n0 G h cells slots pcF ls st) : Run p l e R s m args below meth c Z own V n0 G h cells slots pc ls (.int x :: st) := by
  subst hF
  cases hc : ifCond.holds cd x
  · exact (kF hc).go fun T t A q => XS.ifNo (g := mkF m pc ls (.int x :: st)) A C.1 rfl (hb C.2.1 hd) rfl hc q
  · exact (kT hc).go fun T t A q => XS.ifYes (g := mkF m pc ls (.int x :: st)) A C.1 rfl (pc0 := pc) (pc' := pcT) rfl (hb C.2.1 hd) rfl hc (toN hT).1 (toN hT).2 q
theorem tf {P : Prop} {b : Bool} (h1 : P → b = true) (h2 : ¬ P → b = false) : (b = true → P) ∧ (b = false → ¬ P) := ⟨fun h => Classical.byContradiction fun q => (by rw [h2 q] at h; cases h), fun h q => (by rw [h1 q] at h; cases h)⟩
theorem lt32 {x y : Int32} : x < y ↔ x.toInt < y.toInt := Int32.lt_iff_toInt_lt
theorem nlt32 {x y : Int32} : ¬ x < y ↔ y.toInt ≤ x.toInt := by rw [lt32]; omega
theorem lt64 {x y : Int64} : x < y ↔ x.toInt < y.toInt := Int64.lt_iff_toInt_lt
theorem nlt64 {x y : Int64} : ¬ x < y ↔ y.toInt ≤ x.toInt := by rw [lt64]; omega
theorem r_icmplt {x y : Int32} {o : Int} {pcT pcF : Nat} (C : Cx p c meth bytes maxL ret nm) (hd : decode bytes pc = .ok (.if_icmp .lt o, 3)) (hT : (pc : Int) + o = (pcT : Int)) (hF : pc + 3 = pcF) (kT : x.toInt < y.toInt → Run p l e R s m args below meth c Z own V n0 G h cells slots pcT ls st) (kF : y.toInt ≤ x.toInt → Run p l e R s m args below meth c Z own V n0 G h cells slots pcF ls st) : Run p l e R s m args below meth c Z own V n0 G h cells slots pc ls (.int y :: .int x :: st) :=
  r_icmp C hd hT hF (fun hc => kT (lt32.mp ((tf (P := x < y) XT.ii_lt_t XT.ii_lt_f).1 hc))) (fun hc => kF (nlt32.mp ((tf (P := x < y) XT.ii_lt_t XT.ii_lt_f).2 hc)))
theorem r_iflt {x : Int32} {o : Int} {pcT pcF : Nat} (C : Cx p c meth bytes maxL ret nm) (hd : decode bytes pc = .ok (.ifCond .lt o, 3)) (hT : (pc : Int) + o = (pcT : Int)) (hF : pc + 3 = pcF) (kT : x.toInt < 0 → Run p l e R s m args below meth c Z own V n0 G h cells slots pcT ls st) (kF : 0 ≤ x.toInt → Run p l e R s m args below meth c Z own V n0 G h cells slots pcF ls st) : Run p l e R s m args below meth c Z own V n0 G h cells slots pc ls (.int x :: st) :=
  r_if C hd hT hF (fun hc => kT (lt32.mp ((tf (P := x < (0 : Int32)) XT.i0_lt_t XT.i0_lt_f).1 hc))) (fun hc => kF (nlt32.mp ((tf (P := x < (0 : Int32)) XT.i0_lt_t XT.i0_lt_f).2 hc)))
theorem r_lcmplt {x y : Int64} {o : Int} {pcT pcF : Nat} (C : Cx p c meth bytes maxL ret nm) (hd0 : decode bytes pc = .ok (.lcmp, 1)) (hp : pc + 1 = pc') (hd : decode bytes pc' = .ok (.ifCond .lt o, 3)) (hT : (pc' : Int) + o = (pcT : Int)) (hF : pc' + 3 = pcF) (kT : x.toInt < y.toInt → Run p l e R s m args below meth c Z own V n0 G h cells slots pcT ls st) (kF : y.toInt ≤ x.toInt → Run p l e R s m args below meth c Z own V n0 G h cells slots pcF ls st) : Run p l e R s m args below meth c Z own V n0 G h cells slots pc ls (.long y :: .long x :: st) := by
  subst hp
  exact (r_if (x := XT.cmpL x y) C hd hT hF (fun hc => kT (lt64.mp ((tf (P := x < y) XT.ll_lt_t XT.ll_lt_f).1 hc))) (fun hc => kF (nlt64.mp ((tf (P := x < y) XT.ll_lt_t XT.ll_lt_f).2 hc)))).go fun T t A q => XT.lcmp (g := mkF m pc ls (.long y :: .long x :: st)) A C.1 rfl (hb C.2.1 hd0) rfl q
theorem r_icmpge {x y : Int32} {o : Int} {pcT pcF : Nat} (C : Cx p c meth bytes maxL ret nm) (hd : decode bytes pc = .ok (.if_icmp .ge o, 3)) (hT : (pc : Int) + o = (pcT : Int)) (hF : pc + 3 = pcF) (kT : y.toInt ≤ x.toInt → Run p l e R s m args below meth c Z own V n0 G h cells slots pcT ls st) (kF : x.toInt < y.toInt → Run p l e R s m args below meth c Z own V n0 G h cells slots pcF ls st) : Run p l e R s m args below meth c Z own V n0 G h cells slots pc ls (.int y :: .int x :: st) :=
  r_icmp C hd hT hF (fun hc => kT (nlt32.mp ((tf (P := ¬ x < y) XT.ii_ge_t (fun q => XT.ii_ge_f (Classical.not_not.mp q))).1 hc))) (fun hc => kF (lt32.mp (Classical.not_not.mp ((tf (P := ¬ x < y) XT.ii_ge_t (fun q => XT.ii_ge_f (Classical.not_not.mp q))).2 hc))))
theorem r_ifge {x : Int32} {o : Int} {pcT pcF : Nat} (C : Cx p c meth bytes maxL ret nm) (hd : decode bytes pc = .ok (.ifCond .ge o, 3)) (hT : (pc : Int) + o = (pcT : Int)) (hF : pc + 3 = pcF) (kT : 0 ≤ x.toInt → Run p l e R s m args below meth c Z own V n0 G h cells slots pcT ls st) (kF : x.toInt < 0 → Run p l e R s m args below meth c Z own V n0 G h cells slots pcF ls st) : Run p l e R s m args below meth c Z own V n0 G h cells slots pc ls (.int x :: st) :=
  r_if C hd hT hF (fun hc => kT (nlt32.mp ((tf (P := ¬ x < (0 : Int32)) XT.i0_ge_t (fun q => XT.i0_ge_f (Classical.not_not.mp q))).1 hc))) (fun hc => kF (lt32.mp (Classical.not_not.mp ((tf (P := ¬ x < (0 : Int32)) XT.i0_ge_t (fun q => XT.i0_ge_f (Classical.not_not.mp q))).2 hc))))
theorem r_lcmpge {x y : Int64} {o : Int} {pcT pcF : Nat} (C : Cx p c meth bytes maxL ret nm) (hd0 : decode bytes pc = .ok (.lcmp, 1)) (hp : pc + 1 = pc') (hd : decode bytes pc' = .ok (.ifCond .ge o, 3)) (hT : (pc' : Int) + o = (pcT : Int)) (hF : pc' + 3 = pcF) (kT : y.toInt ≤ x.toInt → Run p l e R s m args below meth c Z own V n0 G h cells slots pcT ls st) (kF : x.toInt < y.toInt → Run p l e R s m args below meth c Z own V n0 G h cells slots pcF ls st) : Run p l e R s m args below meth c Z own V n0 G h cells slots pc ls (.long y :: .long x :: st) := by
  subst hp
  exact (r_if (x := XT.cmpL x y) C hd hT hF (fun hc => kT (nlt64.mp ((tf (P := ¬ x < y) XT.ll_ge_t (fun q => XT.ll_ge_f (Classical.not_not.mp q))).1 hc))) (fun hc => kF (lt64.mp (Classical.not_not.mp ((tf (P := ¬ x < y) XT.ll_ge_t (fun q => XT.ll_ge_f (Classical.not_not.mp q))).2 hc))))).go fun T t A q => XT.lcmp (g := mkF m pc ls (.long y :: .long x :: st)) A C.1 rfl (hb C.2.1 hd0) rfl q
theorem r_icmpgt {x y : Int32} {o : Int} {pcT pcF : Nat} (C : Cx p c meth bytes maxL ret nm) (hd : decode bytes pc = .ok (.if_icmp .gt o, 3)) (hT : (pc : Int) + o = (pcT : Int)) (hF : pc + 3 = pcF) (kT : y.toInt < x.toInt → Run p l e R s m args below meth c Z own V n0 G h cells slots pcT ls st) (kF : x.toInt ≤ y.toInt → Run p l e R s m args below meth c Z own V n0 G h cells slots pcF ls st) : Run p l e R s m args below meth c Z own V n0 G h cells slots pc ls (.int y :: .int x :: st) :=
  r_icmp C hd hT hF (fun hc => kT (lt32.mp ((tf (P := y < x) XT.ii_gt_t XT.ii_gt_f).1 hc))) (fun hc => kF (nlt32.mp ((tf (P := y < x) XT.ii_gt_t XT.ii_gt_f).2 hc)))
theorem r_ifgt {x : Int32} {o : Int} {pcT pcF : Nat} (C : Cx p c meth bytes maxL ret nm) (hd : decode bytes pc = .ok (.ifCond .gt o, 3)) (hT : (pc : Int) + o = (pcT : Int)) (hF : pc + 3 = pcF) (kT : 0 < x.toInt → Run p l e R s m args below meth c Z own V n0 G h cells slots pcT ls st) (kF : x.toInt ≤ 0 → Run p l e R s m args below meth c Z own V n0 G h cells slots pcF ls st) : Run p l e R s m args below meth c Z own V n0 G h cells slots pc ls (.int x :: st) :=
  r_if C hd hT hF (fun hc => kT (lt32.mp ((tf (P := (0 : Int32) < x) XT.i0_gt_t XT.i0_gt_f).1 hc))) (fun hc => kF (nlt32.mp ((tf (P := (0 : Int32) < x) XT.i0_gt_t XT.i0_gt_f).2 hc)))
theorem r_lcmpgt {x y : Int64} {o : Int} {pcT pcF : Nat} (C : Cx p c meth bytes maxL ret nm) (hd0 : decode bytes pc = .ok (.lcmp, 1)) (hp : pc + 1 = pc') (hd : decode bytes pc' = .ok (.ifCond .gt o, 3)) (hT : (pc' : Int) + o = (pcT : Int)) (hF : pc' + 3 = pcF) (kT : y.toInt < x.toInt → Run p l e R s m args below meth c Z own V n0 G h cells slots pcT ls st) (kF : x.toInt ≤ y.toInt → Run p l e R s m args below meth c Z own V n0 G h cells slots pcF ls st) : Run p l e R s m args below meth c Z own V n0 G h cells slots pc ls (.long y :: .long x :: st) := by
  subst hp
  exact (r_if (x := XT.cmpL x y) C hd hT hF (fun hc => kT (lt64.mp ((tf (P := y < x) XT.ll_gt_t XT.ll_gt_f).1 hc))) (fun hc => kF (nlt64.mp ((tf (P := y < x) XT.ll_gt_t XT.ll_gt_f).2 hc)))).go fun T t A q => XT.lcmp (g := mkF m pc ls (.long y :: .long x :: st)) A C.1 rfl (hb C.2.1 hd0) rfl q
theorem r_icmple {x y : Int32} {o : Int} {pcT pcF : Nat} (C : Cx p c meth bytes maxL ret nm) (hd : decode bytes pc = .ok (.if_icmp .le o, 3)) (hT : (pc : Int) + o = (pcT : Int)) (hF : pc + 3 = pcF) (kT : x.toInt ≤ y.toInt → Run p l e R s m args below meth c Z own V n0 G h cells slots pcT ls st) (kF : y.toInt < x.toInt → Run p l e R s m args below meth c Z own V n0 G h cells slots pcF ls st) : Run p l e R s m args below meth c Z own V n0 G h cells slots pc ls (.int y :: .int x :: st) :=
  r_icmp C hd hT hF (fun hc => kT (nlt32.mp ((tf (P := ¬ y < x) XT.ii_le_t (fun q => XT.ii_le_f (Classical.not_not.mp q))).1 hc))) (fun hc => kF (lt32.mp (Classical.not_not.mp ((tf (P := ¬ y < x) XT.ii_le_t (fun q => XT.ii_le_f (Classical.not_not.mp q))).2 hc))))
theorem r_ifle {x : Int32} {o : Int} {pcT pcF : Nat} (C : Cx p c meth bytes maxL ret nm) (hd : decode bytes pc = .ok (.ifCond .le o, 3)) (hT : (pc : Int) + o = (pcT : Int)) (hF : pc + 3 = pcF) (kT : x.toInt ≤ 0 → Run p l e R s m args below meth c Z own V n0 G h cells slots pcT ls st) (kF : 0 < x.toInt → Run p l e R s m args below meth c Z own V n0 G h cells slots pcF ls st) : Run p l e R s m args below meth c Z own V n0 G h cells slots pc ls (.int x :: st) :=
  r_if C hd hT hF (fun hc => kT (nlt32.mp ((tf (P := ¬ (0 : Int32) < x) XT.i0_le_t (fun q => XT.i0_le_f (Classical.not_not.mp q))).1 hc))) (fun hc => kF (lt32.mp (Classical.not_not.mp ((tf (P := ¬ (0 : Int32) < x) XT.i0_le_t (fun q => XT.i0_le_f (Classical.not_not.mp q))).2 hc))))
theorem r_lcmple {x y : Int64} {o : Int} {pcT pcF : Nat} (C : Cx p c meth bytes maxL ret nm) (hd0 : decode bytes pc = .ok (.lcmp, 1)) (hp : pc + 1 = pc') (hd : decode bytes pc' = .ok (.ifCond .le o, 3)) (hT : (pc' : Int) + o = (pcT : Int)) (hF : pc' + 3 = pcF) (kT : x.toInt ≤ y.toInt → Run p l e R s m args below meth c Z own V n0 G h cells slots pcT ls st) (kF : y.toInt < x.toInt → Run p l e R s m args below meth c Z own V n0 G h cells slots pcF ls st) : Run p l e R s m args below meth c Z own V n0 G h cells slots pc ls (.long y :: .long x :: st) := by
  subst hp
  exact (r_if (x := XT.cmpL x y) C hd hT hF (fun hc => kT (nlt64.mp ((tf (P := ¬ y < x) XT.ll_le_t (fun q => XT.ll_le_f (Classical.not_not.mp q))).1 hc))) (fun hc => kF (lt64.mp (Classical.not_not.mp ((tf (P := ¬ y < x) XT.ll_le_t (fun q => XT.ll_le_f (Classical.not_not.mp q))).2 hc))))).go fun T t A q => XT.lcmp (g := mkF m pc ls (.long y :: .long x :: st)) A C.1 rfl (hb C.2.1 hd0) rfl q
theorem r_icmpeq {x y : Int32} {o : Int} {pcT pcF : Nat} (C : Cx p c meth bytes maxL ret nm) (hd : decode bytes pc = .ok (.if_icmp .eq o, 3)) (hT : (pc : Int) + o = (pcT : Int)) (hF : pc + 3 = pcF) (kT : x = y → Run p l e R s m args below meth c Z own V n0 G h cells slots pcT ls st) (kF : ¬ x = y → Run p l e R s m args below meth c Z own V n0 G h cells slots pcF ls st) : Run p l e R s m args below meth c Z own V n0 G h cells slots pc ls (.int y :: .int x :: st) :=
  r_icmp C hd hT hF (fun hc => kT ((tf (P := x = y) XT.ii_eq_t XT.ii_eq_f).1 hc)) (fun hc => kF ((tf (P := x = y) XT.ii_eq_t XT.ii_eq_f).2 hc))
theorem r_ifeq {x : Int32} {o : Int} {pcT pcF : Nat} (C : Cx p c meth bytes maxL ret nm) (hd : decode bytes pc = .ok (.ifCond .eq o, 3)) (hT : (pc : Int) + o = (pcT : Int)) (hF : pc + 3 = pcF) (kT : x = 0 → Run p l e R s m args below meth c Z own V n0 G h cells slots pcT ls st) (kF : ¬ x = 0 → Run p l e R s m args below meth c Z own V n0 G h cells slots pcF ls st) : Run p l e R s m args below meth c Z own V n0 G h cells slots pc ls (.int x :: st) :=
  r_if C hd hT hF (fun hc => kT ((tf (P := x = 0) XT.i0_eq_t XT.i0_eq_f).1 hc)) (fun hc => kF ((tf (P := x = 0) XT.i0_eq_t XT.i0_eq_f).2 hc))
theorem r_lcmpeq {x y : Int64} {o : Int} {pcT pcF : Nat} (C : Cx p c meth bytes maxL ret nm) (hd0 : decode bytes pc = .ok (.lcmp, 1)) (hp : pc + 1 = pc') (hd : decode bytes pc' = .ok (.ifCond .eq o, 3)) (hT : (pc' : Int) + o = (pcT : Int)) (hF : pc' + 3 = pcF) (kT : x = y → Run p l e R s m args below meth c Z own V n0 G h cells slots pcT ls st) (kF : ¬ x = y → Run p l e R s m args below meth c Z own V n0 G h cells slots pcF ls st) : Run p l e R s m args below meth c Z own V n0 G h cells slots pc ls (.long y :: .long x :: st) := by
  subst hp
  exact (r_if (x := XT.cmpL x y) C hd hT hF (fun hc => kT ((tf (P := x = y) XT.ll_eq_t XT.ll_eq_f).1 hc)) (fun hc => kF ((tf (P := x = y) XT.ll_eq_t XT.ll_eq_f).2 hc))).go fun T t A q => XT.lcmp (g := mkF m pc ls (.long y :: .long x :: st)) A C.1 rfl (hb C.2.1 hd0) rfl q
theorem r_icmpne {x y : Int32} {o : Int} {pcT pcF : Nat} (C : Cx p c meth bytes maxL ret nm) (hd : decode bytes pc = .ok (.if_icmp .ne o, 3)) (hT : (pc : Int) + o = (pcT : Int)) (hF : pc + 3 = pcF) (kT : ¬ x = y → Run p l e R s m args below meth c Z own V n0 G h cells slots pcT ls st) (kF : x = y → Run p l e R s m args below meth c Z own V n0 G h cells slots pcF ls st) : Run p l e R s m args below meth c Z own V n0 G h cells slots pc ls (.int y :: .int x :: st) :=
  r_icmp C hd hT hF (fun hc => kT ((tf (P := ¬ x = y) XT.ii_ne_t (fun q => XT.ii_ne_f (Classical.not_not.mp q))).1 hc)) (fun hc => kF (Classical.not_not.mp ((tf (P := ¬ x = y) XT.ii_ne_t (fun q => XT.ii_ne_f (Classical.not_not.mp q))).2 hc)))
theorem r_ifne {x : Int32} {o : Int} {pcT pcF : Nat} (C : Cx p c meth bytes maxL ret nm) (hd : decode bytes pc = .ok (.ifCond .ne o, 3)) (hT : (pc : Int) + o = (pcT : Int)) (hF : pc + 3 = pcF) (kT : ¬ x = 0 → Run p l e R s m args below meth c Z own V n0 G h cells slots pcT ls st) (kF : x = 0 → Run p l e R s m args below meth c Z own V n0 G h cells slots pcF ls st) : Run p l e R s m args below meth c Z own V n0 G h cells slots pc ls (.int x :: st) :=
  r_if C hd hT hF (fun hc => kT ((tf (P := ¬ x = 0) XT.i0_ne_t (fun q => XT.i0_ne_f (Classical.not_not.mp q))).1 hc)) (fun hc => kF (Classical.not_not.mp ((tf (P := ¬ x = 0) XT.i0_ne_t (fun q => XT.i0_ne_f (Classical.not_not.mp q))).2 hc)))
theorem r_lcmpne {x y : Int64} {o : Int} {pcT pcF : Nat} (C : Cx p c meth bytes maxL ret nm) (hd0 : decode bytes pc = .ok (.lcmp, 1)) (hp : pc + 1 = pc') (hd : decode bytes pc' = .ok (.ifCond .ne o, 3)) (hT : (pc' : Int) + o = (pcT : Int)) (hF : pc' + 3 = pcF) (kT : ¬ x = y → Run p l e R s m args below meth c Z own V n0 G h cells slots pcT ls st) (kF : x = y → Run p l e R s m args below meth c Z own V n0 G h cells slots pcF ls st) : Run p l e R s m args below meth c Z own V n0 G h cells slots pc ls (.long y :: .long x :: st) := by
  subst hp
  exact (r_if (x := XT.cmpL x y) C hd hT hF (fun hc => kT ((tf (P := ¬ x = y) XT.ll_ne_t (fun q => XT.ll_ne_f (Classical.not_not.mp q))).1 hc)) (fun hc => kF (Classical.not_not.mp ((tf (P := ¬ x = y) XT.ll_ne_t (fun q => XT.ll_ne_f (Classical.not_not.mp q))).2 hc)))).go fun T t A q => XT.lcmp (g := mkF m pc ls (.long y :: .long x :: st)) A C.1 rfl (hb C.2.1 hd0) rfl q
theorem r_ifnonnullR {a : Addr} {o : Int} (C : Cx p c meth bytes maxL ret nm) (hd : decode bytes pc = .ok (.ifnonnull o, 3)) (hp : (pc : Int) + o = (pc' : Int)) (k : Run p l e R s m args below meth c Z own V n0 G h cells slots pc' ls st) : Run p l e R s m args below meth c Z own V n0 G h cells slots pc ls (.ref a :: st) :=
  k.go fun T t A q => XT.ifnonnullYes (g := mkF m pc ls (.ref a :: st)) A C.1 rfl (pc0 := pc) (pc' := pc') rfl (hb C.2.1 hd) rfl (toN hp).1 (toN hp).2 q
theorem r_ifnullR {a : Addr} {o : Int} (C : Cx p c meth bytes maxL ret nm) (hd : decode bytes pc = .ok (.ifnull o, 3)) (hp : pc + 3 = pc') (k : Run p l e R s m args below meth c Z own V n0 G h cells slots pc' ls st) : Run p l e R s m args below meth c Z own V n0 G h cells slots pc ls (.ref a :: st) := by
  subst hp
  exact k.go fun T t A q => XS.ifnullNo (g := mkF m pc ls (.ref a :: st)) A C.1 rfl (hb C.2.1 hd) rfl q
theorem r_ldc {i : Nat} {x : Int32} (C : Cx p c meth bytes maxL ret nm) (w : (Jvm.Cond.constant own i x).before a0 Z = true) (hd : decode bytes pc = .ok (.ldc i, 2)) (hp : pc + 2 = pc') (k : Run p l e R s m args below meth c Z own V n0 G h cells slots pc' ls (.int x :: st)) : Run p l e R s m args below meth c Z own V n0 G h cells slots pc ls st := by
  subst hp
  intro vm0 k0 T L X hV hk hZ ho N eT
  obtain ⟨U, o, h1, r⟩ := k vm0 k0 T L X hV hk hZ ho N eT
  exact ⟨U, o, X.ldcI (g := mkF m pc ls st) C.1 (own := own) ho (mvT (s := s.setVm vm0) hZ w) rfl (hb C.2.1 hd) h1, r⟩
theorem r_ldc_w {i : Nat} {x : Int32} (C : Cx p c meth bytes maxL ret nm) (w : (Jvm.Cond.constant own i x).before a0 Z = true) (hd : decode bytes pc = .ok (.ldc_w i, 3)) (hp : pc + 3 = pc') (k : Run p l e R s m args below meth c Z own V n0 G h cells slots pc' ls (.int x :: st)) : Run p l e R s m args below meth c Z own V n0 G h cells slots pc ls st := by
  subst hp
  intro vm0 k0 T L X hV hk hZ ho N eT
  obtain ⟨U, o, h1, r⟩ := k vm0 k0 T L X hV hk hZ ho N eT
  exact ⟨U, o, X.ldcWI (g := mkF m pc ls st) C.1 (own := own) ho (mvT (s := s.setVm vm0) hZ w) rfl (hb C.2.1 hd) h1, r⟩
theorem r_ldc2_w {i : Nat} {x : Int64} (C : Cx p c meth bytes maxL ret nm) (w : (Jvm.Cond.constantLong own i x).before a0 Z = true) (hd : decode bytes pc = .ok (.ldc2_w i, 3)) (hp : pc + 3 = pc') (k : Run p l e R s m args below meth c Z own V n0 G h cells slots pc' ls (.long x :: st)) : Run p l e R s m args below meth c Z own V n0 G h cells slots pc ls st := by
  subst hp
  intro vm0 k0 T L X hV hk hZ ho N eT
  obtain ⟨U, o, h1, r⟩ := k vm0 k0 T L X hV hk hZ ho N eT
  exact ⟨U, o, X.ldc2J (g := mkF m pc ls st) C.1 (own := own) ho (mvT (s := s.setVm vm0) hZ w) rfl (hb C.2.1 hd) h1, r⟩
theorem retI0 {T : State} {locs : List Loc} {k n : Nat} (X : Stand p l e R s m args below meth c T locs k n) (hx : p.tables.exec = Jvm.exec) {pc : Nat} {Ls : Array Slot} {z : Int32} {rest : List Value} (hret : meth.sig.returnType = some .int) (hd : decode c.code pc = .ok (.ireturn, 1)) {fs : List Frame}
    (hl : ∀ (f : JFrame) (acts : List Action), f.method = m → f.locked = none → f.entered = [] → (doReturn e (T.setTop f) acts (some (.int z))).1 = T.setFrames fs) : Steps p.tables e below (T.setTop (mkF m pc Ls (.int z :: rest))) (T.setFrames fs) :=
  retOut X hx hret rfl (Or.inl ⟨rfl, Or.inl rfl, z, rfl⟩) hd hl
theorem r_ireturn {z : Int32} {P : Option Value → Heap → Prop} (C : Cx p c meth bytes maxL (some .int) nm) (hd : decode bytes pc = .ok (.ireturn, 1)) (hP : P (some (.int z)) h) (hc : cells ≤ R.cells) (hs : slots ≤ R.slots) : Run p l e R s m args below meth c Z own (plainV s) n0 (Gq s n0 R P) h cells slots pc ls (.int z :: st) := by
  intro vm0 k0 T L X hV hk hZ ho N eT
  cases (show vm0 = s.vm from hV)
  have X' : Stand p l e R s m args below meth c T L cells slots := X
  obtain ⟨fs, hr, hrun, hended, hW, hsame⟩ := X'.leave (v := (some (.int z))) (fun h => by first | rfl | (rw [C.2.2.2.1] at h; cases h)) C.2.2.2.2.1
  exact ⟨_, _, retI0 X' C.1 C.2.2.2.1 (hb C.2.1 hd) hr, hrun, hended, _, _, rfl, ⟨by show P _ T.heap; rw [eT]; exact hP, N⟩, ⟨_, rfl⟩, hW, hsame.mono hc hs⟩
theorem r_ireturnN {z : Int32} {t : FieldType} (ht : t = .boolean ∨ t = .byte ∨ t = .char ∨ t = .short) {P : Option Value → Heap → Prop} (C : Cx p c meth bytes maxL (some t) nm) (hd : decode bytes pc = .ok (.ireturn, 1)) (hP : P (some (.int (nar t z))) h) (hc : cells ≤ R.cells) (hs : slots ≤ R.slots) : Run p l e R s m args below meth c Z own (plainV s) n0 (Gq s n0 R P) h cells slots pc ls (.int z :: st) := by
  intro vm0 k0 T L X hV hk hZ ho N eT
  cases (show vm0 = s.vm from hV)
  have X' : Stand p l e R s m args below meth c T L cells slots := X
  obtain ⟨fs, hr, hrun, hended, hW, hsame⟩ := X'.leave (v := (some (.int (nar t z)))) (fun h => by first | rfl | (rw [C.2.2.2.1] at h; cases h)) C.2.2.2.2.1
  exact ⟨_, _, retN X' C.1 C.2.2.2.1 ht (hb C.2.1 hd) hr, hrun, hended, _, _, rfl, ⟨by show P _ T.heap; rw [eT]; exact hP, N⟩, ⟨_, rfl⟩, hW, hsame.mono hc hs⟩
theorem r_lreturn {z : Int64} {P : Option Value → Heap → Prop} (C : Cx p c meth bytes maxL (some .long) nm) (hd : decode bytes pc = .ok (.lreturn, 1)) (hP : P (some (.long z)) h) (hc : cells ≤ R.cells) (hs : slots ≤ R.slots) : Run p l e R s m args below meth c Z own (plainV s) n0 (Gq s n0 R P) h cells slots pc ls (.long z :: st) := by
  intro vm0 k0 T L X hV hk hZ ho N eT
  cases (show vm0 = s.vm from hV)
  have X' : Stand p l e R s m args below meth c T L cells slots := X
  obtain ⟨fs, hr, hrun, hended, hW, hsame⟩ := X'.leave (v := (some (.long z))) (fun h => by first | rfl | (rw [C.2.2.2.1] at h; cases h)) C.2.2.2.2.1
  exact ⟨_, _, retOut X' C.1 C.2.2.2.1 rfl (Or.inr (Or.inl ⟨rfl, rfl, z, rfl⟩)) (hb C.2.1 hd) hr, hrun, hended, _, _, rfl, ⟨by show P _ T.heap; rw [eT]; exact hP, N⟩, ⟨_, rfl⟩, hW, hsame.mono hc hs⟩
theorem r_areturn {a : Addr} {t : FieldType} (ht : t.isReference = true) (hn : narrow t (.ref a) = .ref a) {P : Option Value → Heap → Prop} (C : Cx p c meth bytes maxL (some t) nm) (hd : decode bytes pc = .ok (.areturn, 1)) (hP : P (some (.ref a)) h) (hc : cells ≤ R.cells) (hs : slots ≤ R.slots) : Run p l e R s m args below meth c Z own (plainV s) n0 (Gq s n0 R P) h cells slots pc ls (.ref a :: st) := by
  intro vm0 k0 T L X hV hk hZ ho N eT
  cases (show vm0 = s.vm from hV)
  have X' : Stand p l e R s m args below meth c T L cells slots := X
  obtain ⟨fs, hr, hrun, hended, hW, hsame⟩ := X'.leave (v := (some (.ref a))) (fun h => by first | rfl | (rw [C.2.2.2.1] at h; cases h)) C.2.2.2.2.1
  exact ⟨_, _, retOut X' C.1 C.2.2.2.1 hn (Or.inr (Or.inr (Or.inr (Or.inr ⟨rfl, ht, rfl⟩)))) (hb C.2.1 hd) hr, hrun, hended, _, _, rfl, ⟨by show P _ T.heap; rw [eT]; exact hP, N⟩, ⟨_, rfl⟩, hW, hsame.mono hc hs⟩
theorem r_return0  {P : Option Value → Heap → Prop} (C : Cx p c meth bytes maxL none nm) (hd : decode bytes pc = .ok (.return_, 1)) (hP : P none h) (hc : cells ≤ R.cells) (hs : slots ≤ R.slots) : Run p l e R s m args below meth c Z own (plainV s) n0 (Gq s n0 R P) h cells slots pc ls [] := by
  intro vm0 k0 T L X hV hk hZ ho N eT
  cases (show vm0 = s.vm from hV)
  have X' : Stand p l e R s m args below meth c T L cells slots := X
  obtain ⟨fs, hr, hrun, hended, hW, hsame⟩ := X'.leave (v := none) (fun h => by first | rfl | (rw [C.2.2.2.1] at h; cases h)) C.2.2.2.2.1
  exact ⟨_, _, X'.returnOut C.1 C.2.2.2.1 (hb C.2.1 hd) hr, hrun, hended, _, _, rfl, ⟨by show P _ T.heap; rw [eT]; exact hP, N⟩, ⟨_, rfl⟩, hW, hsame.mono hc hs⟩
theorem r_callS {y : MethodName} {bytes' : ByteArray} {maxL' : Nat} {ret' : Option FieldType} {rm : Room} {as : List Value} {P : Option Value → Heap → Prop} {index W : Nat} {ps : List FieldType} {r0 : Option FieldType} (C : Cx p c meth bytes maxL ret nm)
    (w1 : (Jvm.Cond.methodLink own index y).before a0 Z = true) (w2 : (Jvm.Cond.static y).before a0 Z = true) (w3 : (Jvm.Cond.initialized y.cls).before a0 Z = true) (w4 : (Jvm.Cond.code y bytes' maxL' ret').before a0 Z = true)
    (hy : y.cls ≠ "java/lang/invoke/MethodHandle" ∧ y.cls ≠ "java/lang/invoke/VarHandle") (hpd : parseMethodDescriptor y.desc = some ⟨ps, r0⟩) (hlen : as.length = ps.length) (hstk : st' = as.reverse ++ st) (hd : decode bytes pc = .ok (.invokestatic index, 3)) (hp : pc + 3 = pc')
    (hsz : ls.size = maxL) (hW : (st.map fun v => v.category).sum ≤ W) (K : Con l Z y bytes' maxL' ret' rm as.toArray h n0 P) (hf : rm.frames + 1 ≤ R.frames) (hl : W + (maxL' + 11) + rm.locals ≤ R.locals) (hc : cells + rm.cells ≤ R.cells) (hs : slots + rm.slots ≤ R.slots)
    (k : ∀ v h', P v h' → Run p l e R s m args below meth c Z own V n0 G h' (cells + rm.cells) (slots + rm.slots) pc' ls (v.toList ++ st)) : Run p l e R s m args below meth c Z own V n0 G h cells slots pc ls st' := by
  subst hp hstk
  intro vm0 k0 T L X hV hk hZ ho N eT
  have hZ' : Z.Warmed39 (s.setVm vm0).vm := hZ
  obtain ⟨v, vm₁, B, hw, X', ⟨L', hQ, e1, e2, e3⟩, stp⟩ := Jvm.LawKit.callS X C.1 (y := y) (own := own) ho (mvT hZ' w1) (mvT hZ' w2) (mvT hZ' w3) (mvT hZ' w4) hy
    (backOf (W := W) (Q := fun v h' L => P v h' ∧ Fr n0 L) (K []) hZ' w4 w3 hf hl) (g := mkF m pc ls (as.reverse ++ st)) rfl (by rw [C.2.2.1]; exact hsz) (argsL := as) (rest := st) (lenOf hpd hlen) rfl (by simpa using hW) (hb C.2.1 hd) (fun _ _ => ⟨rfl, eT, hc, hs⟩)
  obtain ⟨hP, N'⟩ := hQ
  obtain ⟨U, L2, ce2, sl2⟩ := B
  dsimp only [Pt.U, Pt.locs, Pt.cells, Pt.slots] at X' e1 e2 e3 stp hP
  subst e1 e2 e3
  have hle := (stp _ (Steps.refl _)).heap_le
  have hle' : h.size ≤ U.heap.size := by rw [← eT]; exact hle
  obtain ⟨U', o, h1, r⟩ := k v _ hP vm0 k0 U _ X' hV (Nat.le_trans hk hle') hZ ho (Fr.app N N') rfl
  exact ⟨U', o, stp _ h1, r⟩
/-- a constructor (or any '<init>') -/
theorem r_callI {y : MethodName} {bytes' : ByteArray} {maxL' : Nat} {rm : Room} {a : Addr} {as : List Value} {P : Option Value → Heap → Prop} {index W : Nat} {ps : List FieldType} {r0 : Option FieldType} (C : Cx p c meth bytes maxL ret nm) (hy1 : y.name = "<init>")
    (w1 : (Jvm.Cond.methodLink own index y).before a0 Z = true) (w2 : (Jvm.Cond.instanceMethod y).before a0 Z = true) (w3 : (Jvm.Cond.initialized y.cls).before a0 Z = true) (w4 : (Jvm.Cond.code y bytes' maxL' none).before a0 Z = true)
    (hy : y.cls ≠ "java/lang/invoke/MethodHandle" ∧ y.cls ≠ "java/lang/invoke/VarHandle") (hpd : parseMethodDescriptor y.desc = some ⟨ps, r0⟩) (hlen : as.length = ps.length) (hstk : st' = as.reverse ++ .ref a :: st) (hd : decode bytes pc = .ok (.invokespecial index, 3)) (hp : pc + 3 = pc')
    (hsz : ls.size = maxL) (hW : (st.map fun v => v.category).sum ≤ W) (K : Con l Z y bytes' maxL' none rm (.ref a :: as).toArray h n0 P) (hf : rm.frames + 1 ≤ R.frames) (hl : W + (maxL' + 11) + rm.locals ≤ R.locals) (hc : cells + rm.cells ≤ R.cells) (hs : slots + rm.slots ≤ R.slots)
    (k : ∀ v h', P v h' → Run p l e R s m args below meth c Z own V n0 G h' (cells + rm.cells) (slots + rm.slots) pc' ls (v.toList ++ st)) : Run p l e R s m args below meth c Z own V n0 G h cells slots pc ls st' := by
  subst hp hstk
  intro vm0 k0 T L X hV hk hZ ho N eT
  have hZ' : Z.Warmed39 (s.setVm vm0).vm := hZ
  obtain ⟨v, vm₁, B, hw, X', ⟨L', hQ, e1, e2, e3⟩, stp⟩ := X.specialBack C.1 (y := y) hy1 (own := own) ho (mvT hZ' w1) (mvT hZ' w2) (mvT hZ' w4) hy
    (backOf (W := W) (Q := fun v h' L => P v h' ∧ Fr n0 L) (K []) hZ' w4 w3 hf hl) (g := mkF m pc ls (as.reverse ++ .ref a :: st)) rfl (by rw [C.2.2.1]; exact hsz) (Steps.refl _) (a := a) (argsL := as) (rest := st) (lenOf hpd hlen) rfl (by simpa using hW) (hb C.2.1 hd) (fun _ _ => ⟨rfl, eT, hc, hs⟩)
  obtain ⟨hP, N'⟩ := hQ
  obtain ⟨U, L2, ce2, sl2⟩ := B
  dsimp only [Pt.U, Pt.locs, Pt.cells, Pt.slots] at X' e1 e2 e3 stp hP
  subst e1 e2 e3
  have hle := stp.heap_le
  have hle' : h.size ≤ U.heap.size := by rw [← eT]; exact hle
  obtain ⟨U', o, h1, r⟩ := k v _ hP vm0 k0 U _ X' hV (Nat.le_trans hk hle') hZ ho (Fr.app N N') rfl
  exact ⟨U', o, stp.trans h1, r⟩
/-- an instance method of an object whose class is known exactly -/
theorem r_callV {y z : MethodName} {K0 K1 : String} {bytes' : ByteArray} {maxL' : Nat} {ret' : Option FieldType} {rm : Room} {a : Addr} {as : List Value} {P : Option Value → Heap → Prop} {index W : Nat} {ps : List FieldType} {r0 : Option FieldType} (C : Cx p c meth bytes maxL ret nm)
    (w1 : (Jvm.Cond.methodLink own index y).before a0 Z = true) (w2 : (Jvm.Cond.declares y).before a0 Z = true) (w5 : (Jvm.Cond.selects K1 y y).before a0 Z = true) (w6 : (Jvm.Cond.selects K0 y z).before a0 Z = true) (w7 : (Jvm.Cond.instanceMethod z).before a0 Z = true) (w3 : (Jvm.Cond.initialized z.cls).before a0 Z = true) (w4 : (Jvm.Cond.code z bytes' maxL' ret').before a0 Z = true)
    (hy : y.cls ≠ "java/lang/invoke/MethodHandle" ∧ y.cls ≠ "java/lang/invoke/VarHandle") (hpd : parseMethodDescriptor y.desc = some ⟨ps, r0⟩) (hlen : as.length = ps.length) (hstk : st' = as.reverse ++ .ref a :: st) (hd : decode bytes pc = .ok (.invokevirtual index, 3)) (hp : pc + 3 = pc')
    (hsz : ls.size = maxL) (hW : (st.map fun v => v.category).sum ≤ W) (E : Exa Z h a K0) (K : Con l Z z bytes' maxL' ret' rm (.ref a :: as).toArray h n0 P) (hf : rm.frames + 1 ≤ R.frames) (hl : W + (maxL' + 11) + rm.locals ≤ R.locals) (hc : cells + rm.cells ≤ R.cells) (hs : slots + rm.slots ≤ R.slots)
    (k : ∀ v h', P v h' → Run p l e R s m args below meth c Z own V n0 G h' (cells + rm.cells) (slots + rm.slots) pc' ls (v.toList ++ st)) : Run p l e R s m args below meth c Z own V n0 G h cells slots pc ls st' := by
  subst hp hstk
  intro vm0 k0 T L X hV hk hZ ho N eT
  have hZ' : Z.Warmed39 (s.setVm vm0).vm := hZ
  obtain ⟨cq, kq, qa, qb, qc⟩ := isOf hZ' eT E
  have nf : NotFace (s.setVm vm0) y := notFace_of_selects (args := #[]) (mvT hZ' w5)
  obtain ⟨v, vm₁, B, hw, X', ⟨L', hQ, e1, e2, e3⟩, stp⟩ := X.virtualBack C.1 (y := y) (z := z) (own := own) ho (mvT hZ' w1) (mvT hZ' w2) nf (mvT hZ' w6) (mvT hZ' w7) hy
    (backOf (W := W) (Q := fun v h' L => P v h' ∧ Fr n0 L) (K []) hZ' w4 w3 hf hl) qa qc (g := mkF m pc ls (as.reverse ++ .ref a :: st)) rfl (by rw [C.2.2.1]; exact hsz) (Steps.refl _) (argsL := as) (rest := st) (lenOf hpd hlen) rfl (by simpa using hW) (hb C.2.1 hd) (fun _ _ => ⟨rfl, eT, hc, hs⟩)
  obtain ⟨hP, N'⟩ := hQ
  obtain ⟨U, L2, ce2, sl2⟩ := B
  dsimp only [Pt.U, Pt.locs, Pt.cells, Pt.slots] at X' e1 e2 e3 stp hP
  subst e1 e2 e3
  have hle := stp.heap_le
  have hle' : h.size ≤ U.heap.size := by rw [← eT]; exact hle
  obtain ⟨U', o, h1, r⟩ := k v _ hP vm0 k0 U _ X' hV (Nat.le_trans hk hle') hZ ho (Fr.app N N') rfl
  exact ⟨U', o, stp.trans h1, r⟩
theorem r_new {K0 : String} {index n : Nat} (C : Cx p c meth bytes maxL ret nm) (w1 : (Jvm.Cond.classLink own index K0).before a0 Z = true) (w2 : (Jvm.Cond.instantiable K0 n).before a0 Z = true) (w3 : (Jvm.Cond.initialized K0).before a0 Z = true) (hd : decode bytes pc = .ok (.new index, 3)) (hp : pc + 3 = pc') (hc : cells + 1 ≤ R.cells) (hs : slots + n ≤ R.slots)
    (k : ∀ (a : Addr) h', @Eq Nat a h.size → Keep h h' [] → Exa Z h' a K0 → (∀ {O nm d : String} {ty : FieldType}, Laid Z a0 K0 O nm d → parseFieldDescriptor d = some ty → Fld Z h' a O nm d (defaultValue ty)) → Run p l e R s m args below meth c Z own V n0 G h' (cells + 1) (slots + n) pc' ls (.ref a :: st)) : Run p l e R s m args below meth c Z own V n0 G h cells slots pc ls st := by
  subst hp
  intro vm0 k0 T L X hV hk hZ ho N eT
  have hZ' : Z.Warmed39 (s.setVm vm0).vm := hZ
  obtain ⟨T2, h2, X2, e2, E2, A2, D2, -, st2⟩ := newO X C.1 hZ' (own := own) ho w1 w2 w3 eT (g := mkF m pc ls st) rfl (hb C.2.1 hd) hc hs
  obtain ⟨U, o, h1, r⟩ := k _ h2 rfl ((Keep.refl h []).ext E2) A2 D2 vm0 k0 T2 L X2 hV (Nat.le_trans hk E2.1) hZ ho N e2
  exact ⟨U, o, st2 _ h1, r⟩
theorem r_getfield {R0 O n d : String} {host : String} {index : Nat} {a : Addr} {v : Value} (C : Cx p c meth bytes maxL ret nm) (w1 : (Jvm.Cond.fieldLink own index R0 n d).before a0 Z = true ∨ (Jvm.Cond.fieldLinkNest own index R0 n d host).before a0 Z = true) (via : Via Z R0 O n d) (hd : decode bytes pc = .ok (.getfield index, 3)) (hp : pc + 3 = pc') (F : Fld Z h a O n d v)
    (k : Run p l e R s m args below meth c Z own V n0 G h cells slots pc' ls (v :: st)) : Run p l e R s m args below meth c Z own V n0 G h cells slots pc ls (.ref a :: st) := by
  subst hp
  intro vm0 k0 T L X hV hk hZ ho N eT
  have hZ' : Z.Warmed39 (s.setVm vm0).vm := hZ
  obtain ⟨T2, X2, e2, st2⟩ := getF X C.1 hZ' (own := own) ho w1 via eT F (g := mkF m pc ls (.ref a :: st)) rfl rfl (hb C.2.1 hd)
  obtain ⟨U, o, h1, r⟩ := k vm0 k0 T2 L X2 hV hk hZ ho N e2
  exact ⟨U, o, st2 _ h1, r⟩
theorem r_putfield {R0 O n d K0 : String} {host : String} {index kk : Nat} {ty : FieldType} {a : Addr} {v old : Value} (C : Cx p c meth bytes maxL ret nm) (w1 : (Jvm.Cond.fieldLink own index R0 n d).before a0 Z = true ∨ (Jvm.Cond.fieldLinkNest own index R0 n d host).before a0 Z = true) (via : Via Z R0 O n d) (hL : (Jvm.Cond.lays K0 O n d).before a0 Z = true ∨ ((Jvm.Cond.laysFinal K0 O n d).before a0 Z = true ∧ own = O ∧ nm = "<init>")) (w2 : (Jvm.Cond.instantiable K0 kk).before a0 Z = true) (hty : parseFieldDescriptor d = some ty)
    (hd : decode bytes pc = .ok (.putfield index, 3)) (hp : pc + 3 = pc') (hn : narrow ty v = v) (hfi : fits ty v = true) (hge : n0 ≤ a) (F : Fld Z h a O n d old) (E : Exa Z h a K0)
    (k : ∀ h', Keep h h' [a] → Exa Z h' a K0 → Fld Z h' a O n d v → (∀ {O' n' d' : String} {w : Value} {t' : FieldType}, Laid Z a0 K0 O' n' d' → Laid Z a0 K0 O n d → n' ≠ n → parseFieldDescriptor d' = some t' → Fld Z h a O' n' d' w → Fld Z h' a O' n' d' w) → Run p l e R s m args below meth c Z own V n0 G h' cells slots pc' ls st) : Run p l e R s m args below meth c Z own V n0 G h cells slots pc ls (v :: .ref a :: st) := by
  subst hp
  intro vm0 k0 T L X hV hk hZ ho N eT
  have hZ' : Z.Warmed39 (s.setVm vm0).vm := hZ
  obtain ⟨T2, h2, X2, e2, W2, st2⟩ := putF X C.1 hZ' (own := own) ho w1 via eT F E (hL.imp id fun q => ⟨q.1, q.2.1, C.2.2.2.2.2.trans q.2.2⟩) w2 hty hn hfi (g := mkF m pc ls (v :: .ref a :: st)) rfl rfl (hb C.2.1 hd)
  obtain ⟨U, o, h1, r⟩ := k h2 (Keep.of_wr W2) (E.wr W2) (F.same W2) (fun L1 L2 hne ht F' => F'.other W2 (Or.inr (slot_ne L1 L2 hne ht hty))) vm0 k0 T2 _ X2 hV (by rw [W2.size]; exact hk) hZ ho (Fr.snoc X2 N hge) e2
  exact ⟨U, o, st2 _ h1, r⟩
theorem r_putfieldN {R0 O n d K0 : String} {index kk : Nat} {ty : FieldType} {a : Addr} {v v' old : Value} (C : Cx p c meth bytes maxL ret nm) (w1 : (Jvm.Cond.fieldLink own index R0 n d).before a0 Z = true) (via : Via Z R0 O n d) (hL : (Jvm.Cond.lays K0 O n d).before a0 Z = true ∨ ((Jvm.Cond.laysFinal K0 O n d).before a0 Z = true ∧ own = O ∧ nm = "<init>")) (w2 : (Jvm.Cond.instantiable K0 kk).before a0 Z = true) (hty : parseFieldDescriptor d = some ty)
    (hd : decode bytes pc = .ok (.putfield index, 3)) (hp : pc + 3 = pc') (hn : narrow ty v = v') (hfi : fits ty v' = true) (hge : n0 ≤ a) (F : Fld Z h a O n d old) (E : Exa Z h a K0)
    (k : ∀ h', Keep h h' [a] → Exa Z h' a K0 → Fld Z h' a O n d v' → (∀ {O' n' d' : String} {w : Value} {t' : FieldType}, Laid Z a0 K0 O' n' d' → Laid Z a0 K0 O n d → n' ≠ n → parseFieldDescriptor d' = some t' → Fld Z h a O' n' d' w → Fld Z h' a O' n' d' w) → Run p l e R s m args below meth c Z own V n0 G h' cells slots pc' ls st) : Run p l e R s m args below meth c Z own V n0 G h cells slots pc ls (v :: .ref a :: st) := by
  subst hp
  intro vm0 k0 T L X hV hk hZ ho N eT
  have hZ' : Z.Warmed39 (s.setVm vm0).vm := hZ
  obtain ⟨T2, h2, X2, e2, W2, st2⟩ := putFN X C.1 hZ' (own := own) ho w1 via eT F E (hL.imp id fun q => ⟨q.1, q.2.1, C.2.2.2.2.2.trans q.2.2⟩) w2 hty hn hfi (g := mkF m pc ls (v :: .ref a :: st)) rfl rfl (hb C.2.1 hd)
  obtain ⟨U, o, h1, r⟩ := k h2 (Keep.of_wr W2) (E.wr W2) (F.same W2) (fun L1 L2 hne ht F' => F'.other W2 (Or.inr (slot_ne L1 L2 hne ht hty))) vm0 k0 T2 _ X2 hV (by rw [W2.size]; exact hk) hZ ho (Fr.snoc X2 N hge) e2
  exact ⟨U, o, st2 _ h1, r⟩
theorem r_initO {index W : Nat} {a : Addr} (C : Cx p c meth bytes maxL ret nm) (w1 : (Jvm.Cond.methodLink own index Lib.objectInit).before a0 Z = true) (w2 : (Jvm.Cond.instanceMethod Lib.objectInit).before a0 Z = true) (w3 : (Jvm.Cond.code Lib.objectInit ⟨#[0xb1]⟩ 1 none).before a0 Z = true) (hd : decode bytes pc = .ok (.invokespecial index, 3)) (hp : pc + 3 = pc') (hsz : ls.size = maxL)
    (hf : 1 ≤ R.frames) (hW : (st.map fun v => v.category).sum ≤ W) (hl : W + 12 ≤ R.locals) (k : Run p l e R s m args below meth c Z own V n0 G h cells slots pc' ls st) : Run p l e R s m args below meth c Z own V n0 G h cells slots pc ls (.ref a :: st) := by
  subst hp
  intro vm0 k0 T L X hV hk hZ ho N eT
  have hZ' : Z.Warmed39 (s.setVm vm0).vm := hZ
  obtain ⟨T2, X2, e2, st2⟩ := initO X C.1 hZ' (own := own) ho w1 w2 w3 eT (g := mkF m pc ls (.ref a :: st)) rfl (by rw [C.2.2.1]; exact hsz) rfl (hb C.2.1 hd) hf (W := W) (by simpa using hW) hl
  obtain ⟨U, o, h1, r⟩ := k vm0 k0 T2 L X2 hV hk hZ ho N e2
  exact ⟨U, o, st2 _ h1, r⟩
theorem r_getstatic {R0 O n d host : String} {index : Nat} {v : Value} (C : Cx p c meth bytes maxL ret nm) (w1 : (Jvm.Cond.fieldLink own index R0 n d).before a0 Z = true) (via : Via Z R0 O n d) (hd : decode bytes pc = .ok (.getstatic index, 3)) (hp : pc + 3 = pc') (F : Sta Z h O n d v) (k : Run p l e R s m args below meth c Z own V n0 G h cells slots pc' ls (v :: st)) : Run p l e R s m args below meth c Z own V n0 G h cells slots pc ls st := by
  subst hp
  intro vm0 k0 T L X hV hk hZ ho N eT
  have hZ' : Z.Warmed39 (s.setVm vm0).vm := hZ
  obtain ⟨T2, X2, e2, st2⟩ := getS2 X C.1 hZ' (own := own) ho (host := "") (Or.inl w1) via eT F (g := mkF m pc ls st) rfl (hb C.2.1 hd)
  obtain ⟨U, o, h1, r⟩ := k vm0 k0 T2 L X2 hV hk hZ ho N e2
  exact ⟨U, o, st2 _ h1, r⟩
/-- the array at a: n places of kind ty, place j holds f j -/
def IA (Z : State) (h : Heap) (a : Addr) (ty : FieldType) (n : Nat) (f : Nat → Value) : Prop := ∃ cl : Cell, Arr Z h a cl ty ∧ cl.slots.size = n ∧ n < 2 ^ 31 ∧ ∀ j, j < n → cl.slots[j]? = some (f j)
theorem IA.lt {a : Addr} {ty : FieldType} {n : Nat} {f : Nat → Value} (A : IA Z h a ty n f) : a < h.size := by obtain ⟨cl, A, -⟩ := A; exact A.lt
theorem IA.keep {h' : Heap} {ws : List Addr} {a : Addr} {ty : FieldType} {n : Nat} {f : Nat → Value} (A : IA Z h a ty n f) (K : Keep h h' ws) (q : a ∉ ws) : IA Z h' a ty n f := by
  obtain ⟨cl, A, r⟩ := A
  exact ⟨cl, ⟨K.2.1 a cl A.1 q, A.2⟩, r⟩
theorem IA.congr {a : Addr} {ty : FieldType} {n : Nat} {f g : Nat → Value} (A : IA Z h a ty n f) (q : ∀ j, j < n → f j = g j) : IA Z h a ty n g := by
  obtain ⟨cl, A, r1, r2, r3⟩ := A
  exact ⟨cl, A, r1, r2, fun j hj => by rw [r3 j hj, q j hj]⟩
theorem tnn {j : Int32} {n : Nat} (h : j.toInt = (n : Int)) : ¬ j < 0 ∧ j.toNatClampNeg = n := by
  have h0 : ¬ j < 0 := nlt32.mpr (by rw [h]; show (0 : Int) ≤ _; omega)
  exact ⟨h0, by have := nat_of h0; omega⟩
theorem IA.set {h' : Heap} {a : Addr} {ty : FieldType} {n k : Nat} {f : Nat → Value} {v : Value} (A : IA Z h a ty n f) (W : Wr h h' a k v) : IA Z h' a ty n (fun j => if j = k then v else f j) := by
  obtain ⟨cl, A, r1, r2, r3⟩ := A
  refine ⟨cl.setSlot k v, A.same W, by rw [sz_set, r1], r2, fun j hj => ?_⟩
  show (cl.slots.setIfInBounds k v)[j]? = _
  rw [Array.getElem?_setIfInBounds]
  by_cases q : k = j
  · subst q; simp [r1, hj]
  · rw [if_neg q, r3 j hj]
    show some (f j) = some (if j = k then v else f j)
    rw [if_neg (fun z => q (Eq.symm z))]
theorem r_iaload {a : Addr} {n jn : Nat} {f : Nat → Int32} {j : Int32} {x : Int32} (C : Cx p c meth bytes maxL ret nm) (hd : decode bytes pc = .ok (.iaload, 1)) (hp : pc + 1 = pc') (A : IA Z h a .int n (fun i => .int (f i))) (hj : j.toInt = (jn : Int)) (hlt : jn < n) (hv : f jn = x) (k : Run p l e R s m args below meth c Z own V n0 G h cells slots pc' ls (.int x :: st)) : Run p l e R s m args below meth c Z own V n0 G h cells slots pc ls (.int j :: .ref a :: st) := by
  subst hp
  intro vm0 k0 T L X hV hk hZ ho N eT
  have hZ' : Z.Warmed39 (s.setVm vm0).vm := hZ
  obtain ⟨cl, A, r1, r2, r3⟩ := A
  obtain ⟨t1, t2⟩ := tnn hj
  obtain ⟨U, o, h1, r⟩ := k vm0 k0 T L X hV hk hZ ho N eT
  exact ⟨U, o, X.iaload C.1 (j := j) (v := .int x) (by rw [eT]; exact A.1) (State.isArrayOf_alike hZ'.alike A.2.1) A.2.2 (by rw [r1, t2]; exact fun q => q.elim t1 (Nat.not_le.mpr hlt)) (by rw [t2, r3 jn hlt, ← hv]) (g := mkF m pc ls (.int j :: .ref a :: st)) rfl rfl (hb C.2.1 hd) _ h1, r⟩
theorem r_laload {a : Addr} {n jn : Nat} {f : Nat → Int64} {j : Int32} {x : Int64} (C : Cx p c meth bytes maxL ret nm) (hd : decode bytes pc = .ok (.laload, 1)) (hp : pc + 1 = pc') (A : IA Z h a .long n (fun i => .long (f i))) (hj : j.toInt = (jn : Int)) (hlt : jn < n) (hv : f jn = x) (k : Run p l e R s m args below meth c Z own V n0 G h cells slots pc' ls (.long x :: st)) : Run p l e R s m args below meth c Z own V n0 G h cells slots pc ls (.int j :: .ref a :: st) := by
  subst hp
  intro vm0 k0 T L X hV hk hZ ho N eT
  have hZ' : Z.Warmed39 (s.setVm vm0).vm := hZ
  obtain ⟨cl, A, r1, r2, r3⟩ := A
  obtain ⟨t1, t2⟩ := tnn hj
  obtain ⟨U, o, h1, r⟩ := k vm0 k0 T L X hV hk hZ ho N eT
  exact ⟨U, o, X.laload C.1 (j := j) (v := .long x) (by rw [eT]; exact A.1) (State.isArrayOf_alike hZ'.alike A.2.1) A.2.2 (by rw [r1, t2]; exact fun q => q.elim t1 (Nat.not_le.mpr hlt)) (by rw [t2, r3 jn hlt, ← hv]) (g := mkF m pc ls (.int j :: .ref a :: st)) rfl rfl (hb C.2.1 hd) _ h1, r⟩
theorem r_caload {a : Addr} {n jn : Nat} {f : Nat → Int32} {j : Int32} {x : Int32} (C : Cx p c meth bytes maxL ret nm) (hd : decode bytes pc = .ok (.caload, 1)) (hp : pc + 1 = pc') (A : IA Z h a .char n (fun i => .int (f i))) (hj : j.toInt = (jn : Int)) (hlt : jn < n) (hv : f jn = x) (k : Run p l e R s m args below meth c Z own V n0 G h cells slots pc' ls (.int x :: st)) : Run p l e R s m args below meth c Z own V n0 G h cells slots pc ls (.int j :: .ref a :: st) := by
  subst hp
  intro vm0 k0 T L X hV hk hZ ho N eT
  have hZ' : Z.Warmed39 (s.setVm vm0).vm := hZ
  obtain ⟨cl, A, r1, r2, r3⟩ := A
  obtain ⟨t1, t2⟩ := tnn hj
  obtain ⟨U, o, h1, r⟩ := k vm0 k0 T L X hV hk hZ ho N eT
  exact ⟨U, o, X.caload C.1 (j := j) (v := .int x) (by rw [eT]; exact A.1) (State.isArrayOf_alike hZ'.alike A.2.1) A.2.2 (by rw [r1, t2]; exact fun q => q.elim t1 (Nat.not_le.mpr hlt)) (by rw [t2, r3 jn hlt, ← hv]) (g := mkF m pc ls (.int j :: .ref a :: st)) rfl rfl (hb C.2.1 hd) _ h1, r⟩
theorem r_baload {a : Addr} {n jn : Nat} {f : Nat → Int32} {j : Int32} {x : Int32} (C : Cx p c meth bytes maxL ret nm) (hd : decode bytes pc = .ok (.baload, 1)) (hp : pc + 1 = pc') (A : IA Z h a .byte n (fun i => .int (f i))) (hj : j.toInt = (jn : Int)) (hlt : jn < n) (hv : f jn = x) (k : Run p l e R s m args below meth c Z own V n0 G h cells slots pc' ls (.int x :: st)) : Run p l e R s m args below meth c Z own V n0 G h cells slots pc ls (.int j :: .ref a :: st) := by
  subst hp
  intro vm0 k0 T L X hV hk hZ ho N eT
  have hZ' : Z.Warmed39 (s.setVm vm0).vm := hZ
  obtain ⟨cl, A, r1, r2, r3⟩ := A
  obtain ⟨t1, t2⟩ := tnn hj
  obtain ⟨U, o, h1, r⟩ := k vm0 k0 T L X hV hk hZ ho N eT
  exact ⟨U, o, X.baloadBytes C.1 (j := j) (v := .int x) (by rw [eT]; exact A.1) (State.isArrayOf_alike hZ'.alike A.2.1) A.2.2 (by rw [r1, t2]; exact fun q => q.elim t1 (Nat.not_le.mpr hlt)) (by rw [t2, r3 jn hlt, ← hv]) (g := mkF m pc ls (.int j :: .ref a :: st)) rfl rfl (hb C.2.1 hd) _ h1, r⟩
theorem r_zaload {a : Addr} {n jn : Nat} {f : Nat → Int32} {j : Int32} {x : Int32} (C : Cx p c meth bytes maxL ret nm) (hd : decode bytes pc = .ok (.baload, 1)) (hp : pc + 1 = pc') (A : IA Z h a .boolean n (fun i => .int (f i))) (hj : j.toInt = (jn : Int)) (hlt : jn < n) (hv : f jn = x) (k : Run p l e R s m args below meth c Z own V n0 G h cells slots pc' ls (.int x :: st)) : Run p l e R s m args below meth c Z own V n0 G h cells slots pc ls (.int j :: .ref a :: st) := by
  subst hp
  intro vm0 k0 T L X hV hk hZ ho N eT
  have hZ' : Z.Warmed39 (s.setVm vm0).vm := hZ
  obtain ⟨cl, A, r1, r2, r3⟩ := A
  obtain ⟨t1, t2⟩ := tnn hj
  obtain ⟨U, o, h1, r⟩ := k vm0 k0 T L X hV hk hZ ho N eT
  exact ⟨U, o, X.baloadBooleans C.1 (j := j) (v := .int x) (by rw [eT]; exact A.1) (State.isArrayOf_alike hZ'.alike A.2.1) A.2.2 (by rw [r1, t2]; exact fun q => q.elim t1 (Nat.not_le.mpr hlt)) (by rw [t2, r3 jn hlt, ← hv]) (g := mkF m pc ls (.int j :: .ref a :: st)) rfl rfl (hb C.2.1 hd) _ h1, r⟩
theorem r_iastore {a : Addr} {n jn : Nat} {f : Nat → Int32} {j : Int32} {x : Int32} (C : Cx p c meth bytes maxL ret nm) (hd : decode bytes pc = .ok (.iastore, 1)) (hp : pc + 1 = pc') (A : IA Z h a .int n (fun i => .int (f i))) (hj : j.toInt = (jn : Int)) (hlt : jn < n) (hge : n0 ≤ a) (k : ∀ h', Keep h h' [a] → IA Z h' a .int n (fun i => .int (if i = jn then x else f i)) → Run p l e R s m args below meth c Z own V n0 G h' cells slots pc' ls st) : Run p l e R s m args below meth c Z own V n0 G h cells slots pc ls (.int x :: .int j :: .ref a :: st) := by
  subst hp
  intro vm0 k0 T L X hV hk hZ ho N eT
  have hZ' : Z.Warmed39 (s.setVm vm0).vm := hZ
  have A0 := A
  obtain ⟨cl, A, r1, r2, r3⟩ := A
  obtain ⟨t1, t2⟩ := tnn hj
  obtain ⟨T2, h2, X2, e2, W2, st2⟩ := stI X C.1 hZ' eT A (j := j) (x := x) (by rw [r1, t2]; exact fun q => q.elim t1 (Nat.not_le.mpr hlt)) (g := mkF m pc ls (.int x :: .int j :: .ref a :: st)) rfl rfl (hb C.2.1 hd)
  rw [t2] at W2
  obtain ⟨U, o, h1, r⟩ := k h2 (Keep.of_wr W2) ((A0.set W2).congr fun i _ => by by_cases q : i = jn <;> simp [q]) vm0 k0 T2 _ X2 hV (by rw [W2.size]; exact hk) hZ ho (Fr.snoc X2 N hge) e2
  exact ⟨U, o, st2 _ h1, r⟩
theorem r_lastore {a : Addr} {n jn : Nat} {f : Nat → Int64} {j : Int32} {x : Int64} (C : Cx p c meth bytes maxL ret nm) (hd : decode bytes pc = .ok (.lastore, 1)) (hp : pc + 1 = pc') (A : IA Z h a .long n (fun i => .long (f i))) (hj : j.toInt = (jn : Int)) (hlt : jn < n) (hge : n0 ≤ a) (k : ∀ h', Keep h h' [a] → IA Z h' a .long n (fun i => .long (if i = jn then x else f i)) → Run p l e R s m args below meth c Z own V n0 G h' cells slots pc' ls st) : Run p l e R s m args below meth c Z own V n0 G h cells slots pc ls (.long x :: .int j :: .ref a :: st) := by
  subst hp
  intro vm0 k0 T L X hV hk hZ ho N eT
  have hZ' : Z.Warmed39 (s.setVm vm0).vm := hZ
  have A0 := A
  obtain ⟨cl, A, r1, r2, r3⟩ := A
  obtain ⟨t1, t2⟩ := tnn hj
  obtain ⟨T2, h2, X2, e2, W2, st2⟩ := stJ X C.1 hZ' eT A (j := j) (x := x) (by rw [r1, t2]; exact fun q => q.elim t1 (Nat.not_le.mpr hlt)) (g := mkF m pc ls (.long x :: .int j :: .ref a :: st)) rfl rfl (hb C.2.1 hd)
  rw [t2] at W2
  obtain ⟨U, o, h1, r⟩ := k h2 (Keep.of_wr W2) ((A0.set W2).congr fun i _ => by by_cases q : i = jn <;> simp [q]) vm0 k0 T2 _ X2 hV (by rw [W2.size]; exact hk) hZ ho (Fr.snoc X2 N hge) e2
  exact ⟨U, o, st2 _ h1, r⟩
theorem r_castore {a : Addr} {n jn : Nat} {f : Nat → Int32} {j : Int32} {x : Int32} (C : Cx p c meth bytes maxL ret nm) (hd : decode bytes pc = .ok (.castore, 1)) (hp : pc + 1 = pc') (A : IA Z h a .char n (fun i => .int (f i))) (hj : j.toInt = (jn : Int)) (hlt : jn < n) (hge : n0 ≤ a) (k : ∀ h', Keep h h' [a] → IA Z h' a .char n (fun i => .int (if i = jn then (nar .char x) else f i)) → Run p l e R s m args below meth c Z own V n0 G h' cells slots pc' ls st) : Run p l e R s m args below meth c Z own V n0 G h cells slots pc ls (.int x :: .int j :: .ref a :: st) := by
  subst hp
  intro vm0 k0 T L X hV hk hZ ho N eT
  have hZ' : Z.Warmed39 (s.setVm vm0).vm := hZ
  have A0 := A
  obtain ⟨cl, A, r1, r2, r3⟩ := A
  obtain ⟨t1, t2⟩ := tnn hj
  obtain ⟨T2, h2, X2, e2, W2, st2⟩ := stC X C.1 hZ' eT A (j := j) (x := x) (by rw [r1, t2]; exact fun q => q.elim t1 (Nat.not_le.mpr hlt)) (g := mkF m pc ls (.int x :: .int j :: .ref a :: st)) rfl rfl (hb C.2.1 hd)
  rw [t2] at W2
  obtain ⟨U, o, h1, r⟩ := k h2 (Keep.of_wr W2) ((A0.set W2).congr fun i _ => by by_cases q : i = jn <;> simp [q]) vm0 k0 T2 _ X2 hV (by rw [W2.size]; exact hk) hZ ho (Fr.snoc X2 N hge) e2
  exact ⟨U, o, st2 _ h1, r⟩
theorem r_bastore {a : Addr} {n jn : Nat} {f : Nat → Int32} {j : Int32} {x : Int32} (C : Cx p c meth bytes maxL ret nm) (hd : decode bytes pc = .ok (.bastore, 1)) (hp : pc + 1 = pc') (A : IA Z h a .byte n (fun i => .int (f i))) (hj : j.toInt = (jn : Int)) (hlt : jn < n) (hge : n0 ≤ a) (k : ∀ h', Keep h h' [a] → IA Z h' a .byte n (fun i => .int (if i = jn then (nar .byte x) else f i)) → Run p l e R s m args below meth c Z own V n0 G h' cells slots pc' ls st) : Run p l e R s m args below meth c Z own V n0 G h cells slots pc ls (.int x :: .int j :: .ref a :: st) := by
  subst hp
  intro vm0 k0 T L X hV hk hZ ho N eT
  have hZ' : Z.Warmed39 (s.setVm vm0).vm := hZ
  have A0 := A
  obtain ⟨cl, A, r1, r2, r3⟩ := A
  obtain ⟨t1, t2⟩ := tnn hj
  obtain ⟨T2, h2, X2, e2, W2, st2⟩ := stB X C.1 hZ' eT A (j := j) (x := x) (by rw [r1, t2]; exact fun q => q.elim t1 (Nat.not_le.mpr hlt)) (g := mkF m pc ls (.int x :: .int j :: .ref a :: st)) rfl rfl (hb C.2.1 hd)
  rw [t2] at W2
  obtain ⟨U, o, h1, r⟩ := k h2 (Keep.of_wr W2) ((A0.set W2).congr fun i _ => by by_cases q : i = jn <;> simp [q]) vm0 k0 T2 _ X2 hV (by rw [W2.size]; exact hk) hZ ho (Fr.snoc X2 N hge) e2
  exact ⟨U, o, st2 _ h1, r⟩
theorem r_zastore {a : Addr} {n jn : Nat} {f : Nat → Int32} {j : Int32} {x : Int32} (C : Cx p c meth bytes maxL ret nm) (hd : decode bytes pc = .ok (.bastore, 1)) (hp : pc + 1 = pc') (A : IA Z h a .boolean n (fun i => .int (f i))) (hj : j.toInt = (jn : Int)) (hlt : jn < n) (hge : n0 ≤ a) (k : ∀ h', Keep h h' [a] → IA Z h' a .boolean n (fun i => .int (if i = jn then (nar .boolean x) else f i)) → Run p l e R s m args below meth c Z own V n0 G h' cells slots pc' ls st) : Run p l e R s m args below meth c Z own V n0 G h cells slots pc ls (.int x :: .int j :: .ref a :: st) := by
  subst hp
  intro vm0 k0 T L X hV hk hZ ho N eT
  have hZ' : Z.Warmed39 (s.setVm vm0).vm := hZ
  have A0 := A
  obtain ⟨cl, A, r1, r2, r3⟩ := A
  obtain ⟨t1, t2⟩ := tnn hj
  obtain ⟨T2, h2, X2, e2, W2, st2⟩ := stZ X C.1 hZ' eT A (j := j) (x := x) (by rw [r1, t2]; exact fun q => q.elim t1 (Nat.not_le.mpr hlt)) (g := mkF m pc ls (.int x :: .int j :: .ref a :: st)) rfl rfl (hb C.2.1 hd)
  rw [t2] at W2
  obtain ⟨U, o, h1, r⟩ := k h2 (Keep.of_wr W2) ((A0.set W2).congr fun i _ => by by_cases q : i = jn <;> simp [q]) vm0 k0 T2 _ X2 hV (by rw [W2.size]; exact hk) hZ ho (Fr.snoc X2 N hge) e2
  exact ⟨U, o, st2 _ h1, r⟩
theorem r_arraylength {a : Addr} {ty : FieldType} {n : Nat} {f : Nat → Value} {z : Int32} (C : Cx p c meth bytes maxL ret nm) (hd : decode bytes pc = .ok (.arraylength, 1)) (hp : pc + 1 = pc') (A : IA Z h a ty n f) (hz : z.toInt = (n : Int)) (k : Run p l e R s m args below meth c Z own V n0 G h cells slots pc' ls (.int z :: st)) : Run p l e R s m args below meth c Z own V n0 G h cells slots pc ls (.ref a :: st) := by
  subst hp
  intro vm0 k0 T L X hV hk hZ ho N eT
  have hZ' : Z.Warmed39 (s.setVm vm0).vm := hZ
  obtain ⟨cl, A, r1, r2, r3⟩ := A
  obtain ⟨t1, t2⟩ := tnn hz
  obtain ⟨U, o, h1, r⟩ := k vm0 k0 T L X hV hk hZ ho N eT
  have q : cl.slots.size.toInt32 = z := len_of (by rw [r1, t2]) t1
  exact ⟨U, o, X.arraylength C.1 (by rw [eT]; exact A.1) (State.isArrayOf_alike hZ'.alike A.2.1) (g := mkF m pc ls (.ref a :: st)) rfl rfl (hb C.2.1 hd) _ (by rw [q]; exact h1), r⟩
theorem r_newarray {aty : ArrayType} {ty : FieldType} {dv : Value} (hdv : defaultValue ty = dv) {z : Int32} {n cap : Nat} (C : Cx p c meth bytes maxL ret nm) (w1 : (Jvm.Cond.arrayClass ty).before a0 Z = true) (hty : newarray.typeOf aty = ty) (hd : decode bytes pc = .ok (.newarray aty, 2)) (hp : pc + 2 = pc') (hz : z.toInt = (n : Int)) (hcap : n ≤ cap) (hbg : cap * 8 ≤ 536870912) (hc : cells + 1 ≤ R.cells) (hs : slots + cap ≤ R.slots)
    (k : ∀ (a : Addr) h', @Eq Nat a h.size → Keep h h' [] → IA Z h' a ty n (fun _ => dv) → Run p l e R s m args below meth c Z own V n0 G h' (cells + 1) (slots + cap) pc' ls (.ref a :: st)) : Run p l e R s m args below meth c Z own V n0 G h cells slots pc ls (.int z :: st) := by
  subst hp hty hdv
  intro vm0 k0 T L X hV hk hZ ho N eT
  have hZ' : Z.Warmed39 (s.setVm vm0).vm := hZ
  obtain ⟨t1, t2⟩ := tnn hz
  obtain ⟨T2, h2, k2, X2, e2, E2, A2, st2⟩ := newP X C.1 hZ' w1 eT (g := mkF m pc ls (.int z :: st)) rfl (hb C.2.1 hd) rfl t1 (cap := cap) (by rw [t2]; exact hcap) hbg hc hs
  obtain ⟨U, o, h1, r⟩ := k _ h2 rfl ((Keep.refl h []).ext E2) ⟨_, A2, by rw [sz_new, t2], by have := rng32 z; omega, fun j hj => by simp [newA, t2, hj]⟩ vm0 k0 T2 L X2 hV (Nat.le_trans hk E2.1) hZ ho N e2
  exact ⟨U, o, st2 _ h1, r⟩
theorem Run.mono {ce sl : Nat} (k : Run p l e R s m args below meth c Z own V n0 G h ce sl pc ls st) (h1 : cells ≤ ce) (h2 : slots ≤ sl) : Run p l e R s m args below meth c Z own V n0 G h cells slots pc ls st :=
  fun vm0 k0 T L X => k vm0 k0 T L (X.mono h1 h2)
/-- where roads join: the goal from the join on, said once -/
theorem join {α : Type} (Φ : α → Prop) (hJ : α → Heap) (ce sl pcJ : Nat) (lsJ : α → Array Slot) (stJ : α → List Value) (j : ∀ x, Φ x → Run p l e R s m args below meth c Z own V n0 G (hJ x) ce sl pcJ (lsJ x) (stJ x)) (k : (∀ x, Φ x → Run p l e R s m args below meth c Z own V n0 G (hJ x) ce sl pcJ (lsJ x) (stJ x)) → Run p l e R s m args below meth c Z own V n0 G h cells slots pc ls st) : Run p l e R s m args below meth c Z own V n0 G h cells slots pc ls st := k j
/-- a loop: by a measure -/
theorem loop {α : Type} (μ : α → Nat) (Φ : α → Prop) (hJ : α → Heap) (ce sl pcJ : Nat) (lsJ : α → Array Slot) (stJ : α → List Value)
    (body : ∀ x, Φ x → (∀ x', Φ x' → μ x' < μ x → Run p l e R s m args below meth c Z own V n0 G (hJ x') ce sl pcJ (lsJ x') (stJ x')) → Run p l e R s m args below meth c Z own V n0 G (hJ x) ce sl pcJ (lsJ x) (stJ x)) (k : (∀ x, Φ x → Run p l e R s m args below meth c Z own V n0 G (hJ x) ce sl pcJ (lsJ x) (stJ x)) → Run p l e R s m args below meth c Z own V n0 G h cells slots pc ls st) : Run p l e R s m args below meth c Z own V n0 G h cells slots pc ls st := by
  refine k ?_
  have H : ∀ n x, μ x < n → Φ x → Run p l e R s m args below meth c Z own V n0 G (hJ x) ce sl pcJ (lsJ x) (stJ x) := by
    intro n
    induction n with
    | zero => intro x hx; omega
    | succ n ih => intro x hx hp; exact body x hp fun x' hp' hlt => ih x' (by omega) hp'
  exact fun x hp => H _ x (Nat.lt_succ_self _) hp
theorem xadd64 {x y : Int64} (h1 : -4611686018427387904 ≤ x.toInt + y.toInt) (h2 : x.toInt + y.toInt ≤ 4611686018427387904) : (x + y).toInt = x.toInt + y.toInt := by
  have h3 := c_ladd x y
  have h4 := rng64 (x + y)
  omega
theorem xsub64 {x y : Int64} (h1 : -4611686018427387904 ≤ x.toInt - y.toInt) (h2 : x.toInt - y.toInt ≤ 4611686018427387904) : (x - y).toInt = x.toInt - y.toInt := by
  have h3 := c_lsub x y
  have h4 := rng64 (x - y)
  omega
theorem xmul64 {x c : Int64} {k : Int} (hc : c.toInt = k) (h1 : -4611686018427387904 ≤ x.toInt * k) (h2 : x.toInt * k ≤ 4611686018427387904) : (x * c).toInt = x.toInt * k := by
  have h3 := c_lmul x c
  rw [hc] at h3
  have h4 := rng64 (x * c)
  generalize x.toInt * k = P at *
  omega
theorem xadd32 {x y : Int32} (h1 : -2147483648 ≤ x.toInt + y.toInt) (h2 : x.toInt + y.toInt < 2147483648) : (x + y).toInt = x.toInt + y.toInt := by
  have h3 := c_iadd x y
  have h4 := rng32 (x + y)
  omega
theorem xsub32 {x y : Int32} (h1 : -2147483648 ≤ x.toInt - y.toInt) (h2 : x.toInt - y.toInt < 2147483648) : (x - y).toInt = x.toInt - y.toInt := by
  have h3 := c_isub x y
  have h4 := rng32 (x - y)
  omega
theorem xl2i {x : Int64} (h1 : -2147483648 ≤ x.toInt) (h2 : x.toInt < 2147483648) : x.toInt32.toInt = x.toInt := by
  have h3 := c_l2i x
  have h4 := rng32 x.toInt32
  omega
end Kit
/-! bodies that may intern a literal: the end is told of the true start by ReturnedEndW -/
def sinceV (s : State) (vm : Vm) (k : Nat) : Prop := s.Since vm k
def GqW (s : State) (n0 : Nat) (rm : Room) (P : Option Value → Heap → Prop) (U : State) (o : Outcome) : Prop := ∃ v L, o = .returned v ∧ (P v U.heap ∧ Fr n0 L) ∧ ReturnedEndW s o U L rm.cells rm.slots
def ConW (l : Launch) (Z : State) (y : MethodName) (bytes : ByteArray) (maxL : Nat) (ret : Option FieldType) (rm : Room) (as : Array Value) (h0 : Heap) (n0 : Nat) (P : Option Value → Heap → Prop) : Prop :=
  ∀ ws : List Jvm.Cond, MetFree l y (head1 (Jvm.Cond.code y bytes maxL ret :: ws) rm) (fun a U => a = as ∧ Z.Warmed39 U.vm ∧ U.heap = h0) (fun _ _ _ _ _ => True) (fun _ U o U' => GqW U n0 rm P U' o)
section KitW
variable {p : Program} {l : Launch} {e : Env} {R : Room} {s : State} {m : MethodId} {args : Array Value} {below : List Frame} {meth : Method} {c : Code} {Z : State} {own : String} {n0 : Nat} {G : State → Outcome → Prop} {h : Heap} {cells slots pc pc' : Nat} {ls ls' : Array Slot} {st st' : List Value} {bytes : ByteArray} {maxL : Nat} {ret : Option FieldType} {nm : String} {a0 : Array Value}
theorem ConW.of_body {y : MethodName} {rm : Room} {as : Array Value} {h0 : Heap} {P : Option Value → Heap → Prop} (hp : plainFor y = true) (Ls : Array Slot) (hent : ∀ m, entryFrame m as maxL = mkF m 0 Ls [])
    (body : ∀ p e s m below meth c, Cx p c meth bytes maxL ret y.name → Run p l e rm s m as below meth c Z y.cls (sinceV s) n0 (GqW s n0 rm P) h0 0 0 0 Ls []) : ConW l Z y bytes maxL ret rm as h0 n0 P := by
  intro ws
  refine MetFree.of_bodySF hp hisR ?_
  intro p e s m args below meth c s₁ Bd hml0 hP hK
  obtain ⟨rfl, hZ, hh⟩ := hP
  have hown : s.vm.findClass y.cls = some m.cls := findClass_of_methodNamed Bd.named
  have hnm := (name_of_methodNamed Bd.named Bd.method).1
  obtain ⟨U, o, h1, h2, h3, h4⟩ := body p e s m below meth c ⟨Bd.exec, Bd.bytes, hml0, Bd.returns, BodyLoose.notSynchronized Bd, hnm⟩ s.vm 0 s₁ [] (Stand.of_body Bd) ((State.WarmedH.refl s).since 0) (Nat.zero_le _) hZ hown (Fr.nil n0) (by rw [← hh, Bd.state]; rfl)
  exact ⟨U, o, castTop (hent m) h1, h2, h3, h4⟩
theorem r_ireturnW {z : Int32} {P : Option Value → Heap → Prop} (C : Cx p c meth bytes maxL (some .int) nm) (hd : decode bytes pc = .ok (.ireturn, 1)) (hP : P (some (.int z)) h) (hc : cells ≤ R.cells) (hs : slots ≤ R.slots) : Run p l e R s m args below meth c Z own (sinceV s) n0 (GqW s n0 R P) h cells slots pc ls (.int z :: st) := by
  intro vm0 k0 T L X hV hk hZ ho N eT
  obtain ⟨fs, hr, hrun, hended, hW⟩ := X.leaveW (s := s) hV (by rw [eT]; exact hk) (v := (some (.int z))) (fun h => by first | rfl | (rw [C.2.2.2.1] at h; cases h)) C.2.2.2.2.1
  exact ⟨_, _, retI0 X C.1 C.2.2.2.1 (hb C.2.1 hd) hr, hrun, hended, _, _, rfl, ⟨by show P _ T.heap; rw [eT]; exact hP, N⟩, hW.1, hW.2.1, hW.2.2.1, hW.2.2.2.mono hc hs⟩
theorem r_ireturnNW {z : Int32} {t : FieldType} (ht : t = .boolean ∨ t = .byte ∨ t = .char ∨ t = .short) {P : Option Value → Heap → Prop} (C : Cx p c meth bytes maxL (some t) nm) (hd : decode bytes pc = .ok (.ireturn, 1)) (hP : P (some (.int (nar t z))) h) (hc : cells ≤ R.cells) (hs : slots ≤ R.slots) : Run p l e R s m args below meth c Z own (sinceV s) n0 (GqW s n0 R P) h cells slots pc ls (.int z :: st) := by
  intro vm0 k0 T L X hV hk hZ ho N eT
  obtain ⟨fs, hr, hrun, hended, hW⟩ := X.leaveW (s := s) hV (by rw [eT]; exact hk) (v := (some (.int (nar t z)))) (fun h => by first | rfl | (rw [C.2.2.2.1] at h; cases h)) C.2.2.2.2.1
  exact ⟨_, _, retN X C.1 C.2.2.2.1 ht (hb C.2.1 hd) hr, hrun, hended, _, _, rfl, ⟨by show P _ T.heap; rw [eT]; exact hP, N⟩, hW.1, hW.2.1, hW.2.2.1, hW.2.2.2.mono hc hs⟩
theorem r_lreturnW {z : Int64} {P : Option Value → Heap → Prop} (C : Cx p c meth bytes maxL (some .long) nm) (hd : decode bytes pc = .ok (.lreturn, 1)) (hP : P (some (.long z)) h) (hc : cells ≤ R.cells) (hs : slots ≤ R.slots) : Run p l e R s m args below meth c Z own (sinceV s) n0 (GqW s n0 R P) h cells slots pc ls (.long z :: st) := by
  intro vm0 k0 T L X hV hk hZ ho N eT
  obtain ⟨fs, hr, hrun, hended, hW⟩ := X.leaveW (s := s) hV (by rw [eT]; exact hk) (v := (some (.long z))) (fun h => by first | rfl | (rw [C.2.2.2.1] at h; cases h)) C.2.2.2.2.1
  exact ⟨_, _, retOut X C.1 C.2.2.2.1 rfl (Or.inr (Or.inl ⟨rfl, rfl, z, rfl⟩)) (hb C.2.1 hd) hr, hrun, hended, _, _, rfl, ⟨by show P _ T.heap; rw [eT]; exact hP, N⟩, hW.1, hW.2.1, hW.2.2.1, hW.2.2.2.mono hc hs⟩
theorem r_areturnW {a : Addr} {t : FieldType} (ht : t.isReference = true) (hn : narrow t (.ref a) = .ref a) {P : Option Value → Heap → Prop} (C : Cx p c meth bytes maxL (some t) nm) (hd : decode bytes pc = .ok (.areturn, 1)) (hP : P (some (.ref a)) h) (hc : cells ≤ R.cells) (hs : slots ≤ R.slots) : Run p l e R s m args below meth c Z own (sinceV s) n0 (GqW s n0 R P) h cells slots pc ls (.ref a :: st) := by
  intro vm0 k0 T L X hV hk hZ ho N eT
  obtain ⟨fs, hr, hrun, hended, hW⟩ := X.leaveW (s := s) hV (by rw [eT]; exact hk) (v := (some (.ref a))) (fun h => by first | rfl | (rw [C.2.2.2.1] at h; cases h)) C.2.2.2.2.1
  exact ⟨_, _, retOut X C.1 C.2.2.2.1 hn (Or.inr (Or.inr (Or.inr (Or.inr ⟨rfl, ht, rfl⟩)))) (hb C.2.1 hd) hr, hrun, hended, _, _, rfl, ⟨by show P _ T.heap; rw [eT]; exact hP, N⟩, hW.1, hW.2.1, hW.2.2.1, hW.2.2.2.mono hc hs⟩
theorem r_return0W  {P : Option Value → Heap → Prop} (C : Cx p c meth bytes maxL none nm) (hd : decode bytes pc = .ok (.return_, 1)) (hP : P none h) (hc : cells ≤ R.cells) (hs : slots ≤ R.slots) : Run p l e R s m args below meth c Z own (sinceV s) n0 (GqW s n0 R P) h cells slots pc ls [] := by
  intro vm0 k0 T L X hV hk hZ ho N eT
  obtain ⟨fs, hr, hrun, hended, hW⟩ := X.leaveW (s := s) hV (by rw [eT]; exact hk) (v := none) (fun h => by first | rfl | (rw [C.2.2.2.1] at h; cases h)) C.2.2.2.2.1
  exact ⟨_, _, X.returnOut C.1 C.2.2.2.1 (hb C.2.1 hd) hr, hrun, hended, _, _, rfl, ⟨by show P _ T.heap; rw [eT]; exact hP, N⟩, hW.1, hW.2.1, hW.2.2.1, hW.2.2.2.mono hc hs⟩
theorem r_callSW {y : MethodName} {bytes' : ByteArray} {maxL' : Nat} {ret' : Option FieldType} {rm : Room} {as : List Value} {P : Option Value → Heap → Prop} {index W : Nat} {ps : List FieldType} {r0 : Option FieldType} (C : Cx p c meth bytes maxL ret nm)
    (w1 : (Jvm.Cond.methodLink own index y).before a0 Z = true) (w2 : (Jvm.Cond.static y).before a0 Z = true) (w3 : (Jvm.Cond.initialized y.cls).before a0 Z = true) (w4 : (Jvm.Cond.code y bytes' maxL' ret').before a0 Z = true)
    (hy : y.cls ≠ "java/lang/invoke/MethodHandle" ∧ y.cls ≠ "java/lang/invoke/VarHandle") (hpd : parseMethodDescriptor y.desc = some ⟨ps, r0⟩) (hlen : as.length = ps.length) (hstk : st' = as.reverse ++ st) (hd : decode bytes pc = .ok (.invokestatic index, 3)) (hp : pc + 3 = pc')
    (hsz : ls.size = maxL) (hW : (st.map fun v => v.category).sum ≤ W) (K : ConW l Z y bytes' maxL' ret' rm as.toArray h n0 P) (hf : rm.frames + 1 ≤ R.frames) (hl : W + (maxL' + 11) + rm.locals ≤ R.locals) (hc : cells + rm.cells ≤ R.cells) (hs : slots + rm.slots ≤ R.slots)
    (k : ∀ v h', P v h' → Run p l e R s m args below meth c Z own (sinceV s) n0 G h' (cells + rm.cells) (slots + rm.slots) pc' ls (v.toList ++ st)) : Run p l e R s m args below meth c Z own (sinceV s) n0 G h cells slots pc ls st' := by
  subst hp hstk
  intro vm0 k0 T L X hV hk hZ ho N eT
  have hZ' : Z.Warmed39 (s.setVm vm0).vm := hZ
  obtain ⟨v, vm₁, B, hw, X', hS', hgr, ⟨L', hQ, e1, e2, e3⟩, stp⟩ := callSS X C.1 (y := y) (own := own) ho (mvT hZ' w1) (mvT hZ' w2) (mvT hZ' w3) (mvT hZ' w4) hy
    (backOfS (W := W) (Q := fun v h' L => P v h' ∧ Fr n0 L) (K []) hZ' w4 w3 hf hl) (g := mkF m pc ls (as.reverse ++ st)) rfl (by rw [C.2.2.1]; exact hsz) (argsL := as) (rest := st) (lenOf hpd hlen) rfl (by simpa using hW) (hb C.2.1 hd) (fun _ _ => ⟨rfl, eT, hc, hs⟩)
  obtain ⟨hP, N'⟩ := hQ
  obtain ⟨U, L2, ce2, sl2⟩ := B
  dsimp only [Pt.U, Pt.locs, Pt.cells, Pt.slots] at X' e1 e2 e3 stp hP hS' hgr
  subst e1 e2 e3
  have hle' : h.size ≤ U.heap.size := by rw [← eT]; exact hgr
  have hSf : s.Since U.vm U.heap.size := State.Since.trans (vm₁ := vm0) hV hS' (Nat.le_trans hk hle')
  obtain ⟨U', o, h1, r⟩ := k v _ hP U.vm U.heap.size U _ X' hSf (Nat.le_refl _) (State.Warmed39.trans (t := s.setVm vm0) hZ hS'.1) (by rw [hS'.1.alike.findClass]; exact ho) (Fr.app N N') rfl
  exact ⟨U', o, stp.trans h1, r⟩
theorem r_callIW {y : MethodName} {bytes' : ByteArray} {maxL' : Nat} {rm : Room} {a : Addr} {as : List Value} {P : Option Value → Heap → Prop} {index W : Nat} {ps : List FieldType} {r0 : Option FieldType} (C : Cx p c meth bytes maxL ret nm) (hy1 : y.name = "<init>")
    (w1 : (Jvm.Cond.methodLink own index y).before a0 Z = true) (w2 : (Jvm.Cond.instanceMethod y).before a0 Z = true) (w3 : (Jvm.Cond.initialized y.cls).before a0 Z = true) (w4 : (Jvm.Cond.code y bytes' maxL' none).before a0 Z = true)
    (hy : y.cls ≠ "java/lang/invoke/MethodHandle" ∧ y.cls ≠ "java/lang/invoke/VarHandle") (hpd : parseMethodDescriptor y.desc = some ⟨ps, r0⟩) (hlen : as.length = ps.length) (hstk : st' = as.reverse ++ .ref a :: st) (hd : decode bytes pc = .ok (.invokespecial index, 3)) (hp : pc + 3 = pc')
    (hsz : ls.size = maxL) (hW : (st.map fun v => v.category).sum ≤ W) (K : ConW l Z y bytes' maxL' none rm (.ref a :: as).toArray h n0 P) (hf : rm.frames + 1 ≤ R.frames) (hl : W + (maxL' + 11) + rm.locals ≤ R.locals) (hc : cells + rm.cells ≤ R.cells) (hs : slots + rm.slots ≤ R.slots)
    (k : ∀ v h', P v h' → Run p l e R s m args below meth c Z own (sinceV s) n0 G h' (cells + rm.cells) (slots + rm.slots) pc' ls (v.toList ++ st)) : Run p l e R s m args below meth c Z own (sinceV s) n0 G h cells slots pc ls st' := by
  subst hp hstk
  intro vm0 k0 T L X hV hk hZ ho N eT
  have hZ' : Z.Warmed39 (s.setVm vm0).vm := hZ
  obtain ⟨v, vm₁, B, hw, X', hS', hgr, ⟨L', hQ, e1, e2, e3⟩, stp⟩ := X.specialBackS C.1 (y := y) hy1 (own := own) ho (mvT hZ' w1) (mvT hZ' w2) (mvT hZ' w4) hy
    (backOfS (W := W) (Q := fun v h' L => P v h' ∧ Fr n0 L) (K []) hZ' w4 w3 hf hl) (g := mkF m pc ls (as.reverse ++ .ref a :: st)) rfl (by rw [C.2.2.1]; exact hsz) (Steps.refl _) (a := a) (argsL := as) (rest := st) (lenOf hpd hlen) rfl (by simpa using hW) (hb C.2.1 hd) (fun _ _ => ⟨rfl, eT, hc, hs⟩)
  obtain ⟨hP, N'⟩ := hQ
  obtain ⟨U, L2, ce2, sl2⟩ := B
  dsimp only [Pt.U, Pt.locs, Pt.cells, Pt.slots] at X' e1 e2 e3 stp hP hS' hgr
  subst e1 e2 e3
  have hle' : h.size ≤ U.heap.size := by rw [← eT]; exact hgr
  have hSf : s.Since U.vm U.heap.size := State.Since.trans (vm₁ := vm0) hV hS' (Nat.le_trans hk hle')
  obtain ⟨U', o, h1, r⟩ := k v _ hP U.vm U.heap.size U _ X' hSf (Nat.le_refl _) (State.Warmed39.trans (t := s.setVm vm0) hZ hS'.1) (by rw [hS'.1.alike.findClass]; exact ho) (Fr.app N N') rfl
  exact ⟨U', o, stp.trans h1, r⟩
theorem r_ldcS {index n : Nat} {text : String} (C : Cx p c meth bytes maxL ret nm) (w : (Jvm.Cond.stringLink own index text).before a0 Z = true) (wS : ∀ a ∈ Bundle.stringAtoms, a.before a0 Z = true) (hd : decode bytes pc = .ok (.ldc index, 2)) (hp : pc + 2 = pc') (hn : 4 * text.toList.length ≤ n) (hbig : n ≤ 536870912) (hc : cells + 2 ≤ R.cells) (hl : slots + (n + 4) ≤ R.slots)
    (k : ∀ (a : Addr) h', Keep h h' [] → Run p l e R s m args below meth c Z own (sinceV s) n0 G h' (cells + 2) (slots + (n + 4)) pc' ls (.ref a :: st)) : Run p l e R s m args below meth c Z own (sinceV s) n0 G h cells slots pc ls st := by
  subst hp
  intro vm0 k0 T L X hV hk hZ ho N eT
  obtain ⟨a, T2, h2, k1, X2, e2, E2, hS2, hk1, hZ2, ho2, st2⟩ := ldcS (s := s) X C.1 hZ (own := own) ho w wS eT hV hk (g := mkF m pc ls st) rfl (hb C.2.1 hd) hn hbig hc hl
  obtain ⟨U, o, h1, r⟩ := k a h2 ((Keep.refl h []).ext E2) T2.vm k1 T2 L X2 hS2 hk1 hZ2 ho2 N e2
  exact ⟨U, o, st2 _ h1, r⟩
end KitW
section Facts
theorem t0 {Z : State} {a0 : Array Value} (hw : ∀ d ∈ tables_1, d.before a0 Z = true) : (Jvm.Cond.arrayClass Jvm.ClassFile.FieldType.char).before a0 Z = true := hw _ (List.mem_of_getElem? (i := 0) rfl)
theorem t1 {Z : State} {a0 : Array Value} (hw : ∀ d ∈ tables_1, d.before a0 Z = true) : (Jvm.Cond.methodLink "com/example/gate2/gate2/xml/XmlCursorLineAtPinLaw" (7 : Nat) ({ cls := "com/example/gate2/gate2/xml/XmlCursorLineAtPinLaw", name := "pick", desc := "(IIJ)C" } : Jvm.MethodName)).before a0 Z = true := hw _ (List.mem_of_getElem? (i := 1) rfl)
theorem t2 {Z : State} {a0 : Array Value} (hw : ∀ d ∈ tables_1, d.before a0 Z = true) : (Jvm.Cond.static ({ cls := "com/example/gate2/gate2/xml/XmlCursorLineAtPinLaw", name := "pick", desc := "(IIJ)C" } : Jvm.MethodName)).before a0 Z = true := hw _ (List.mem_of_getElem? (i := 2) rfl)
theorem t3 {Z : State} {a0 : Array Value} (hw : ∀ d ∈ tables_1, d.before a0 Z = true) : (Jvm.Cond.initialized "com/example/gate2/gate2/xml/XmlCursorLineAtPinLaw").before a0 Z = true := hw _ (List.mem_of_getElem? (i := 3) rfl)
theorem t4 {Z : State} {a0 : Array Value} (hw : ∀ d ∈ tables_1, d.before a0 Z = true) : (Jvm.Cond.code ({ cls := "com/example/gate2/gate2/xml/XmlCursorLineAtPinLaw", name := "pick", desc := "(IIJ)C" } : Jvm.MethodName) method_3_code (4 : Nat) (Option.some Jvm.ClassFile.FieldType.char)).before a0 Z = true := hw _ (List.mem_of_getElem? (i := 4) rfl)
theorem t5 {Z : State} {a0 : Array Value} (hw : ∀ d ∈ tables_1, d.before a0 Z = true) : (Jvm.Cond.constantLong "com/example/gate2/gate2/xml/XmlCursorLineAtPinLaw" (29 : Nat) (255 : Int64)).before a0 Z = true := hw _ (List.mem_of_getElem? (i := 5) rfl)
theorem t6 {Z : State} {a0 : Array Value} (hw : ∀ d ∈ tables_1, d.before a0 Z = true) : (Jvm.Cond.constant "com/example/gate2/gate2/xml/XmlCursorLineAtPinLaw" (13 : Nat) (2147483647 : Int32)).before a0 Z = true := hw _ (List.mem_of_getElem? (i := 6) rfl)
theorem t7 {Z : State} {a0 : Array Value} (hw : ∀ d ∈ tables_1, d.before a0 Z = true) : (Jvm.Cond.classLink "com/example/gate2/gate2/xml/XmlCursorLineAtPinLaw" (14 : Nat) "com/example/gate2/gate2/xml/XmlCursor").before a0 Z = true := hw _ (List.mem_of_getElem? (i := 7) rfl)
theorem t8 {Z : State} {a0 : Array Value} (hw : ∀ d ∈ tables_1, d.before a0 Z = true) : (Jvm.Cond.instantiable "com/example/gate2/gate2/xml/XmlCursor" (8 : Nat)).before a0 Z = true := hw _ (List.mem_of_getElem? (i := 8) rfl)
theorem t9 {Z : State} {a0 : Array Value} (hw : ∀ d ∈ tables_1, d.before a0 Z = true) : (Jvm.Cond.initialized "com/example/gate2/gate2/xml/XmlCursor").before a0 Z = true := hw _ (List.mem_of_getElem? (i := 9) rfl)
theorem t10 {Z : State} {a0 : Array Value} (hw : ∀ d ∈ tables_1, d.before a0 Z = true) : (Jvm.Cond.stringLink "com/example/gate2/gate2/xml/XmlCursorLineAtPinLaw" (16 : Nat) "doc").before a0 Z = true := hw _ (List.mem_of_getElem? (i := 10) rfl)
theorem t11 {Z : State} {a0 : Array Value} (hw : ∀ d ∈ tables_1, d.before a0 Z = true) : (Jvm.Cond.initialized "java/lang/String").before a0 Z = true := hw _ (List.mem_of_getElem? (i := 11) rfl)
theorem t12 {Z : State} {a0 : Array Value} (hw : ∀ d ∈ tables_1, d.before a0 Z = true) : (Jvm.Cond.instantiable "java/lang/String" (4 : Nat)).before a0 Z = true := hw _ (List.mem_of_getElem? (i := 12) rfl)
theorem t13 {Z : State} {a0 : Array Value} (hw : ∀ d ∈ tables_1, d.before a0 Z = true) : (Jvm.Cond.arrayClass Jvm.ClassFile.FieldType.byte).before a0 Z = true := hw _ (List.mem_of_getElem? (i := 13) rfl)
theorem t14 {Z : State} {a0 : Array Value} (hw : ∀ d ∈ tables_1, d.before a0 Z = true) : (Jvm.Cond.laysFinal "java/lang/String" "java/lang/String" "value" "[B").before a0 Z = true := hw _ (List.mem_of_getElem? (i := 14) rfl)
theorem t15 {Z : State} {a0 : Array Value} (hw : ∀ d ∈ tables_1, d.before a0 Z = true) : (Jvm.Cond.laysFinal "java/lang/String" "java/lang/String" "coder" "B").before a0 Z = true := hw _ (List.mem_of_getElem? (i := 15) rfl)
theorem t16 {Z : State} {a0 : Array Value} (hw : ∀ d ∈ tables_1, d.before a0 Z = true) : (Jvm.Cond.soleField "java/lang/String" "value").before a0 Z = true := hw _ (List.mem_of_getElem? (i := 16) rfl)
theorem t17 {Z : State} {a0 : Array Value} (hw : ∀ d ∈ tables_1, d.before a0 Z = true) : (Jvm.Cond.soleField "java/lang/String" "coder").before a0 Z = true := hw _ (List.mem_of_getElem? (i := 17) rfl)
theorem t18 {Z : State} {a0 : Array Value} (hw : ∀ d ∈ tables_1, d.before a0 Z = true) : (Jvm.Cond.methodLink "com/example/gate2/gate2/xml/XmlCursorLineAtPinLaw" (18 : Nat) ({ cls := "com/example/gate2/gate2/xml/XmlCursor", name := "<init>", desc := "([CLcom/example/gate2/gate2/BeansException;Ljava/lang/String;)V" } : Jvm.MethodName)).before a0 Z = true := hw _ (List.mem_of_getElem? (i := 18) rfl)
theorem t19 {Z : State} {a0 : Array Value} (hw : ∀ d ∈ tables_1, d.before a0 Z = true) : (Jvm.Cond.instanceMethod ({ cls := "com/example/gate2/gate2/xml/XmlCursor", name := "<init>", desc := "([CLcom/example/gate2/gate2/BeansException;Ljava/lang/String;)V" } : Jvm.MethodName)).before a0 Z = true := hw _ (List.mem_of_getElem? (i := 19) rfl)
theorem t20 {Z : State} {a0 : Array Value} (hw : ∀ d ∈ tables_1, d.before a0 Z = true) : (Jvm.Cond.code ({ cls := "com/example/gate2/gate2/xml/XmlCursor", name := "<init>", desc := "([CLcom/example/gate2/gate2/BeansException;Ljava/lang/String;)V" } : Jvm.MethodName) prog_57_method_1_code (4 : Nat) (Option.none : Option Jvm.ClassFile.FieldType)).before a0 Z = true := hw _ (List.mem_of_getElem? (i := 20) rfl)
theorem t21 {Z : State} {a0 : Array Value} (hw : ∀ d ∈ tables_1, d.before a0 Z = true) : (Jvm.Cond.methodLink "com/example/gate2/gate2/xml/XmlCursor" (1 : Nat) ({ cls := "java/lang/Object", name := "<init>", desc := "()V" } : Jvm.MethodName)).before a0 Z = true := hw _ (List.mem_of_getElem? (i := 21) rfl)
theorem t22 {Z : State} {a0 : Array Value} (hw : ∀ d ∈ tables_1, d.before a0 Z = true) : (Jvm.Cond.instanceMethod ({ cls := "java/lang/Object", name := "<init>", desc := "()V" } : Jvm.MethodName)).before a0 Z = true := hw _ (List.mem_of_getElem? (i := 22) rfl)
theorem t23 {Z : State} {a0 : Array Value} (hw : ∀ d ∈ tables_1, d.before a0 Z = true) : (Jvm.Cond.code ({ cls := "java/lang/Object", name := "<init>", desc := "()V" } : Jvm.MethodName) object_method_1_code (1 : Nat) (Option.none : Option Jvm.ClassFile.FieldType)).before a0 Z = true := hw _ (List.mem_of_getElem? (i := 23) rfl)
theorem t24 {Z : State} {a0 : Array Value} (hw : ∀ d ∈ tables_1, d.before a0 Z = true) : (Jvm.Cond.fieldLink "com/example/gate2/gate2/xml/XmlCursor" (7 : Nat) "com/example/gate2/gate2/xml/XmlCursor" "countedLine" "I").before a0 Z = true := hw _ (List.mem_of_getElem? (i := 24) rfl)
theorem t25 {Z : State} {a0 : Array Value} (hw : ∀ d ∈ tables_1, d.before a0 Z = true) : (Jvm.Cond.lays "com/example/gate2/gate2/xml/XmlCursor" "com/example/gate2/gate2/xml/XmlCursor" "countedLine" "I").before a0 Z = true := hw _ (List.mem_of_getElem? (i := 25) rfl)
theorem t26 {Z : State} {a0 : Array Value} (hw : ∀ d ∈ tables_1, d.before a0 Z = true) : (Jvm.Cond.classLink "com/example/gate2/gate2/xml/XmlCursor" (13 : Nat) "java/util/TreeSet").before a0 Z = true := hw _ (List.mem_of_getElem? (i := 26) rfl)
theorem t27 {Z : State} {a0 : Array Value} (hw : ∀ d ∈ tables_1, d.before a0 Z = true) : (Jvm.Cond.instantiable "java/util/TreeSet" (1 : Nat)).before a0 Z = true := hw _ (List.mem_of_getElem? (i := 27) rfl)
theorem t28 {Z : State} {a0 : Array Value} (hw : ∀ d ∈ tables_1, d.before a0 Z = true) : (Jvm.Cond.initialized "java/util/TreeSet").before a0 Z = true := hw _ (List.mem_of_getElem? (i := 28) rfl)
theorem t29 {Z : State} {a0 : Array Value} (hw : ∀ d ∈ tables_1, d.before a0 Z = true) : (Jvm.Cond.methodLink "com/example/gate2/gate2/xml/XmlCursor" (15 : Nat) ({ cls := "java/util/TreeSet", name := "<init>", desc := "()V" } : Jvm.MethodName)).before a0 Z = true := hw _ (List.mem_of_getElem? (i := 29) rfl)
theorem t30 {Z : State} {a0 : Array Value} (hw : ∀ d ∈ tables_1, d.before a0 Z = true) : (Jvm.Cond.instanceMethod ({ cls := "java/util/TreeSet", name := "<init>", desc := "()V" } : Jvm.MethodName)).before a0 Z = true := hw _ (List.mem_of_getElem? (i := 30) rfl)
theorem t31 {Z : State} {a0 : Array Value} (hw : ∀ d ∈ tables_1, d.before a0 Z = true) : (Jvm.Cond.code ({ cls := "java/util/TreeSet", name := "<init>", desc := "()V" } : Jvm.MethodName) jdk_2756_method_2_code (1 : Nat) (Option.none : Option Jvm.ClassFile.FieldType)).before a0 Z = true := hw _ (List.mem_of_getElem? (i := 31) rfl)
theorem t32 {Z : State} {a0 : Array Value} (hw : ∀ d ∈ tables_1, d.before a0 Z = true) : (Jvm.Cond.classLink "java/util/TreeSet" (13 : Nat) "java/util/TreeMap").before a0 Z = true := hw _ (List.mem_of_getElem? (i := 32) rfl)
theorem t33 {Z : State} {a0 : Array Value} (hw : ∀ d ∈ tables_1, d.before a0 Z = true) : (Jvm.Cond.instantiable "java/util/TreeMap" (9 : Nat)).before a0 Z = true := hw _ (List.mem_of_getElem? (i := 33) rfl)
theorem t34 {Z : State} {a0 : Array Value} (hw : ∀ d ∈ tables_1, d.before a0 Z = true) : (Jvm.Cond.initialized "java/util/TreeMap").before a0 Z = true := hw _ (List.mem_of_getElem? (i := 34) rfl)
theorem t35 {Z : State} {a0 : Array Value} (hw : ∀ d ∈ tables_1, d.before a0 Z = true) : (Jvm.Cond.methodLink "java/util/TreeSet" (15 : Nat) ({ cls := "java/util/TreeMap", name := "<init>", desc := "()V" } : Jvm.MethodName)).before a0 Z = true := hw _ (List.mem_of_getElem? (i := 35) rfl)
theorem t36 {Z : State} {a0 : Array Value} (hw : ∀ d ∈ tables_1, d.before a0 Z = true) : (Jvm.Cond.instanceMethod ({ cls := "java/util/TreeMap", name := "<init>", desc := "()V" } : Jvm.MethodName)).before a0 Z = true := hw _ (List.mem_of_getElem? (i := 36) rfl)
theorem t38 {Z : State} {a0 : Array Value} (hw : ∀ d ∈ tables_1, d.before a0 Z = true) : (Jvm.Cond.code ({ cls := "java/util/TreeMap", name := "<init>", desc := "()V" } : Jvm.MethodName) jdk_2729_method_1_code (1 : Nat) (Option.none : Option Jvm.ClassFile.FieldType)).before a0 Z = true := hw _ (List.mem_of_getElem? (i := 38) rfl)
theorem t39 {Z : State} {a0 : Array Value} (hw : ∀ d ∈ tables_1, d.before a0 Z = true) : (Jvm.Cond.methodLink "java/util/TreeMap" (1 : Nat) ({ cls := "java/util/AbstractMap", name := "<init>", desc := "()V" } : Jvm.MethodName)).before a0 Z = true := hw _ (List.mem_of_getElem? (i := 39) rfl)
theorem t40 {Z : State} {a0 : Array Value} (hw : ∀ d ∈ tables_1, d.before a0 Z = true) : (Jvm.Cond.instanceMethod ({ cls := "java/util/AbstractMap", name := "<init>", desc := "()V" } : Jvm.MethodName)).before a0 Z = true := hw _ (List.mem_of_getElem? (i := 40) rfl)
theorem t43 {Z : State} {a0 : Array Value} (hw : ∀ d ∈ tables_1, d.before a0 Z = true) : (Jvm.Cond.initialized "java/util/AbstractMap").before a0 Z = true := hw _ (List.mem_of_getElem? (i := 43) rfl)
theorem t44 {Z : State} {a0 : Array Value} (hw : ∀ d ∈ tables_1, d.before a0 Z = true) : (Jvm.Cond.code ({ cls := "java/util/AbstractMap", name := "<init>", desc := "()V" } : Jvm.MethodName) jdk_71_method_1_code (1 : Nat) (Option.none : Option Jvm.ClassFile.FieldType)).before a0 Z = true := hw _ (List.mem_of_getElem? (i := 44) rfl)
theorem t45 {Z : State} {a0 : Array Value} (hw : ∀ d ∈ tables_1, d.before a0 Z = true) : (Jvm.Cond.methodLink "java/util/AbstractMap" (1 : Nat) ({ cls := "java/lang/Object", name := "<init>", desc := "()V" } : Jvm.MethodName)).before a0 Z = true := hw _ (List.mem_of_getElem? (i := 45) rfl)
theorem t46 {Z : State} {a0 : Array Value} (hw : ∀ d ∈ tables_1, d.before a0 Z = true) : (Jvm.Cond.fieldLink "java/util/TreeMap" (7 : Nat) "java/util/TreeMap" "size" "I").before a0 Z = true := hw _ (List.mem_of_getElem? (i := 46) rfl)
theorem t47 {Z : State} {a0 : Array Value} (hw : ∀ d ∈ tables_1, d.before a0 Z = true) : (Jvm.Cond.lays "java/util/TreeMap" "java/util/TreeMap" "size" "I").before a0 Z = true := hw _ (List.mem_of_getElem? (i := 47) rfl)
theorem t48 {Z : State} {a0 : Array Value} (hw : ∀ d ∈ tables_1, d.before a0 Z = true) : (Jvm.Cond.fieldLink "java/util/TreeMap" (13 : Nat) "java/util/TreeMap" "modCount" "I").before a0 Z = true := hw _ (List.mem_of_getElem? (i := 48) rfl)
theorem t49 {Z : State} {a0 : Array Value} (hw : ∀ d ∈ tables_1, d.before a0 Z = true) : (Jvm.Cond.lays "java/util/TreeMap" "java/util/TreeMap" "modCount" "I").before a0 Z = true := hw _ (List.mem_of_getElem? (i := 49) rfl)
theorem t50 {Z : State} {a0 : Array Value} (hw : ∀ d ∈ tables_1, d.before a0 Z = true) : (Jvm.Cond.fieldLink "java/util/TreeMap" (16 : Nat) "java/util/TreeMap" "comparator" "Ljava/util/Comparator;").before a0 Z = true := hw _ (List.mem_of_getElem? (i := 50) rfl)
theorem t51 {Z : State} {a0 : Array Value} (hw : ∀ d ∈ tables_1, d.before a0 Z = true) : (Jvm.Cond.laysFinal "java/util/TreeMap" "java/util/TreeMap" "comparator" "Ljava/util/Comparator;").before a0 Z = true := hw _ (List.mem_of_getElem? (i := 51) rfl)
theorem t52 {Z : State} {a0 : Array Value} (hw : ∀ d ∈ tables_1, d.before a0 Z = true) : (Jvm.Cond.methodLink "java/util/TreeSet" (16 : Nat) ({ cls := "java/util/TreeSet", name := "<init>", desc := "(Ljava/util/NavigableMap;)V" } : Jvm.MethodName)).before a0 Z = true := hw _ (List.mem_of_getElem? (i := 52) rfl)
theorem t53 {Z : State} {a0 : Array Value} (hw : ∀ d ∈ tables_1, d.before a0 Z = true) : (Jvm.Cond.instanceMethod ({ cls := "java/util/TreeSet", name := "<init>", desc := "(Ljava/util/NavigableMap;)V" } : Jvm.MethodName)).before a0 Z = true := hw _ (List.mem_of_getElem? (i := 53) rfl)
theorem t55 {Z : State} {a0 : Array Value} (hw : ∀ d ∈ tables_1, d.before a0 Z = true) : (Jvm.Cond.code ({ cls := "java/util/TreeSet", name := "<init>", desc := "(Ljava/util/NavigableMap;)V" } : Jvm.MethodName) jdk_2756_method_1_code (2 : Nat) (Option.none : Option Jvm.ClassFile.FieldType)).before a0 Z = true := hw _ (List.mem_of_getElem? (i := 55) rfl)
theorem t56 {Z : State} {a0 : Array Value} (hw : ∀ d ∈ tables_1, d.before a0 Z = true) : (Jvm.Cond.methodLink "java/util/TreeSet" (1 : Nat) ({ cls := "java/util/AbstractSet", name := "<init>", desc := "()V" } : Jvm.MethodName)).before a0 Z = true := hw _ (List.mem_of_getElem? (i := 56) rfl)
theorem t57 {Z : State} {a0 : Array Value} (hw : ∀ d ∈ tables_1, d.before a0 Z = true) : (Jvm.Cond.instanceMethod ({ cls := "java/util/AbstractSet", name := "<init>", desc := "()V" } : Jvm.MethodName)).before a0 Z = true := hw _ (List.mem_of_getElem? (i := 57) rfl)
theorem t60 {Z : State} {a0 : Array Value} (hw : ∀ d ∈ tables_1, d.before a0 Z = true) : (Jvm.Cond.initialized "java/util/AbstractSet").before a0 Z = true := hw _ (List.mem_of_getElem? (i := 60) rfl)
theorem t61 {Z : State} {a0 : Array Value} (hw : ∀ d ∈ tables_1, d.before a0 Z = true) : (Jvm.Cond.code ({ cls := "java/util/AbstractSet", name := "<init>", desc := "()V" } : Jvm.MethodName) jdk_91_method_1_code (1 : Nat) (Option.none : Option Jvm.ClassFile.FieldType)).before a0 Z = true := hw _ (List.mem_of_getElem? (i := 61) rfl)
theorem t62 {Z : State} {a0 : Array Value} (hw : ∀ d ∈ tables_1, d.before a0 Z = true) : (Jvm.Cond.methodLink "java/util/AbstractSet" (1 : Nat) ({ cls := "java/util/AbstractCollection", name := "<init>", desc := "()V" } : Jvm.MethodName)).before a0 Z = true := hw _ (List.mem_of_getElem? (i := 62) rfl)
theorem t63 {Z : State} {a0 : Array Value} (hw : ∀ d ∈ tables_1, d.before a0 Z = true) : (Jvm.Cond.instanceMethod ({ cls := "java/util/AbstractCollection", name := "<init>", desc := "()V" } : Jvm.MethodName)).before a0 Z = true := hw _ (List.mem_of_getElem? (i := 63) rfl)
theorem t66 {Z : State} {a0 : Array Value} (hw : ∀ d ∈ tables_1, d.before a0 Z = true) : (Jvm.Cond.initialized "java/util/AbstractCollection").before a0 Z = true := hw _ (List.mem_of_getElem? (i := 66) rfl)
theorem t67 {Z : State} {a0 : Array Value} (hw : ∀ d ∈ tables_1, d.before a0 Z = true) : (Jvm.Cond.code ({ cls := "java/util/AbstractCollection", name := "<init>", desc := "()V" } : Jvm.MethodName) jdk_22_method_1_code (1 : Nat) (Option.none : Option Jvm.ClassFile.FieldType)).before a0 Z = true := hw _ (List.mem_of_getElem? (i := 67) rfl)
theorem t68 {Z : State} {a0 : Array Value} (hw : ∀ d ∈ tables_1, d.before a0 Z = true) : (Jvm.Cond.methodLink "java/util/AbstractCollection" (1 : Nat) ({ cls := "java/lang/Object", name := "<init>", desc := "()V" } : Jvm.MethodName)).before a0 Z = true := hw _ (List.mem_of_getElem? (i := 68) rfl)
theorem t69 {Z : State} {a0 : Array Value} (hw : ∀ d ∈ tables_1, d.before a0 Z = true) : (Jvm.Cond.fieldLink "java/util/TreeSet" (7 : Nat) "java/util/TreeSet" "m" "Ljava/util/NavigableMap;").before a0 Z = true := hw _ (List.mem_of_getElem? (i := 69) rfl)
theorem t70 {Z : State} {a0 : Array Value} (hw : ∀ d ∈ tables_1, d.before a0 Z = true) : (Jvm.Cond.lays "java/util/TreeSet" "java/util/TreeSet" "m" "Ljava/util/NavigableMap;").before a0 Z = true := hw _ (List.mem_of_getElem? (i := 70) rfl)
theorem t71 {Z : State} {a0 : Array Value} (hw : ∀ d ∈ tables_1, d.before a0 Z = true) : (Jvm.Cond.fieldLink "com/example/gate2/gate2/xml/XmlCursor" (16 : Nat) "com/example/gate2/gate2/xml/XmlCursor" "entities" "Ljava/util/Set;").before a0 Z = true := hw _ (List.mem_of_getElem? (i := 71) rfl)
theorem t72 {Z : State} {a0 : Array Value} (hw : ∀ d ∈ tables_1, d.before a0 Z = true) : (Jvm.Cond.laysFinal "com/example/gate2/gate2/xml/XmlCursor" "com/example/gate2/gate2/xml/XmlCursor" "entities" "Ljava/util/Set;").before a0 Z = true := hw _ (List.mem_of_getElem? (i := 72) rfl)
theorem t73 {Z : State} {a0 : Array Value} (hw : ∀ d ∈ tables_1, d.before a0 Z = true) : (Jvm.Cond.fieldLink "com/example/gate2/gate2/xml/XmlCursor" (20 : Nat) "com/example/gate2/gate2/xml/XmlCursor" "text" "[C").before a0 Z = true := hw _ (List.mem_of_getElem? (i := 73) rfl)
theorem t74 {Z : State} {a0 : Array Value} (hw : ∀ d ∈ tables_1, d.before a0 Z = true) : (Jvm.Cond.laysFinal "com/example/gate2/gate2/xml/XmlCursor" "com/example/gate2/gate2/xml/XmlCursor" "text" "[C").before a0 Z = true := hw _ (List.mem_of_getElem? (i := 74) rfl)
theorem t75 {Z : State} {a0 : Array Value} (hw : ∀ d ∈ tables_1, d.before a0 Z = true) : (Jvm.Cond.fieldLink "com/example/gate2/gate2/xml/XmlCursor" (24 : Nat) "com/example/gate2/gate2/xml/XmlCursor" "illegal" "Lcom/example/gate2/gate2/BeansException;").before a0 Z = true := hw _ (List.mem_of_getElem? (i := 75) rfl)
theorem t76 {Z : State} {a0 : Array Value} (hw : ∀ d ∈ tables_1, d.before a0 Z = true) : (Jvm.Cond.laysFinal "com/example/gate2/gate2/xml/XmlCursor" "com/example/gate2/gate2/xml/XmlCursor" "illegal" "Lcom/example/gate2/gate2/BeansException;").before a0 Z = true := hw _ (List.mem_of_getElem? (i := 76) rfl)
theorem t77 {Z : State} {a0 : Array Value} (hw : ∀ d ∈ tables_1, d.before a0 Z = true) : (Jvm.Cond.fieldLink "com/example/gate2/gate2/xml/XmlCursor" (28 : Nat) "com/example/gate2/gate2/xml/XmlCursor" "source" "Ljava/lang/String;").before a0 Z = true := hw _ (List.mem_of_getElem? (i := 77) rfl)
theorem t78 {Z : State} {a0 : Array Value} (hw : ∀ d ∈ tables_1, d.before a0 Z = true) : (Jvm.Cond.laysFinal "com/example/gate2/gate2/xml/XmlCursor" "com/example/gate2/gate2/xml/XmlCursor" "source" "Ljava/lang/String;").before a0 Z = true := hw _ (List.mem_of_getElem? (i := 78) rfl)
theorem t79 {Z : State} {a0 : Array Value} (hw : ∀ d ∈ tables_1, d.before a0 Z = true) : (Jvm.Cond.methodLink "com/example/gate2/gate2/xml/XmlCursorLineAtPinLaw" (21 : Nat) ({ cls := "com/example/gate2/gate2/xml/XmlCursor", name := "lineAt", desc := "(I)I" } : Jvm.MethodName)).before a0 Z = true := hw _ (List.mem_of_getElem? (i := 79) rfl)
theorem t80 {Z : State} {a0 : Array Value} (hw : ∀ d ∈ tables_1, d.before a0 Z = true) : (Jvm.Cond.declares ({ cls := "com/example/gate2/gate2/xml/XmlCursor", name := "lineAt", desc := "(I)I" } : Jvm.MethodName)).before a0 Z = true := hw _ (List.mem_of_getElem? (i := 80) rfl)
theorem t81 {Z : State} {a0 : Array Value} (hw : ∀ d ∈ tables_1, d.before a0 Z = true) : (Jvm.Cond.instanceMethod ({ cls := "com/example/gate2/gate2/xml/XmlCursor", name := "lineAt", desc := "(I)I" } : Jvm.MethodName)).before a0 Z = true := hw _ (List.mem_of_getElem? (i := 81) rfl)
theorem t82 {Z : State} {a0 : Array Value} (hw : ∀ d ∈ tables_1, d.before a0 Z = true) : (Jvm.Cond.selects "com/example/gate2/gate2/xml/XmlCursor" ({ cls := "com/example/gate2/gate2/xml/XmlCursor", name := "lineAt", desc := "(I)I" } : Jvm.MethodName) ({ cls := "com/example/gate2/gate2/xml/XmlCursor", name := "lineAt", desc := "(I)I" } : Jvm.MethodName)).before a0 Z = true := hw _ (List.mem_of_getElem? (i := 82) rfl)
theorem t83 {Z : State} {a0 : Array Value} (hw : ∀ d ∈ tables_1, d.before a0 Z = true) : (Jvm.Cond.code ({ cls := "com/example/gate2/gate2/xml/XmlCursor", name := "lineAt", desc := "(I)I" } : Jvm.MethodName) prog_57_method_36_code (2 : Nat) (Option.some Jvm.ClassFile.FieldType.int)).before a0 Z = true := hw _ (List.mem_of_getElem? (i := 83) rfl)
theorem t84 {Z : State} {a0 : Array Value} (hw : ∀ d ∈ tables_1, d.before a0 Z = true) : (Jvm.Cond.fieldLink "com/example/gate2/gate2/xml/XmlCursor" (280 : Nat) "com/example/gate2/gate2/xml/XmlCursor" "countedTo" "I").before a0 Z = true := hw _ (List.mem_of_getElem? (i := 84) rfl)
theorem t85 {Z : State} {a0 : Array Value} (hw : ∀ d ∈ tables_1, d.before a0 Z = true) : (Jvm.Cond.lays "com/example/gate2/gate2/xml/XmlCursor" "com/example/gate2/gate2/xml/XmlCursor" "countedTo" "I").before a0 Z = true := hw _ (List.mem_of_getElem? (i := 85) rfl)
theorem t86 {Z : State} {a0 : Array Value} (hw : ∀ d ∈ tables_1, d.before a0 Z = true) : (Jvm.Cond.methodLink "com/example/gate2/gate2/xml/XmlCursorLineAtPinLaw" (25 : Nat) ({ cls := "com/example/gate2/gate2/xml/XmlCursorLineAtPinLaw", name := "lines", desc := "([CI)I" } : Jvm.MethodName)).before a0 Z = true := hw _ (List.mem_of_getElem? (i := 86) rfl)
theorem t87 {Z : State} {a0 : Array Value} (hw : ∀ d ∈ tables_1, d.before a0 Z = true) : (Jvm.Cond.static ({ cls := "com/example/gate2/gate2/xml/XmlCursorLineAtPinLaw", name := "lines", desc := "([CI)I" } : Jvm.MethodName)).before a0 Z = true := hw _ (List.mem_of_getElem? (i := 87) rfl)
theorem t88 {Z : State} {a0 : Array Value} (hw : ∀ d ∈ tables_1, d.before a0 Z = true) : (Jvm.Cond.code ({ cls := "com/example/gate2/gate2/xml/XmlCursorLineAtPinLaw", name := "lines", desc := "([CI)I" } : Jvm.MethodName) method_4_code (3 : Nat) (Option.some Jvm.ClassFile.FieldType.int)).before a0 Z = true := hw _ (List.mem_of_getElem? (i := 88) rfl)
theorem own_wS {Z : State} {a0 : Array Value} (hw : ∀ d ∈ tables_1, d.before a0 Z = true) : ∀ a ∈ Bundle.stringAtoms, a.before a0 Z = true := fun a ha => by
  simp only [Bundle.stringAtoms, List.mem_cons, List.not_mem_nil, or_false] at ha
  rcases ha with rfl | rfl | rfl | rfl | rfl | rfl | rfl
  · exact (t11 hw)
  · exact (t12 hw)
  · exact (t13 hw)
  · exact (t14 hw)
  · exact (t15 hw)
  · exact (t16 hw)
  · exact (t17 hw)
theorem d1_0 : decode jdk_71_method_1_code 0 = .ok (.aload_n 0, 1) := by decide +kernel
theorem d1_1 : decode jdk_71_method_1_code 1 = .ok (.invokespecial 1, 3) := by decide +kernel
theorem d1_4 : decode jdk_71_method_1_code 4 = .ok (.return_, 1) := by decide +kernel
theorem d2_0 : decode jdk_22_method_1_code 0 = .ok (.aload_n 0, 1) := by decide +kernel
theorem d2_1 : decode jdk_22_method_1_code 1 = .ok (.invokespecial 1, 3) := by decide +kernel
theorem d2_4 : decode jdk_22_method_1_code 4 = .ok (.return_, 1) := by decide +kernel
theorem d3_0 : decode jdk_91_method_1_code 0 = .ok (.aload_n 0, 1) := by decide +kernel
theorem d3_1 : decode jdk_91_method_1_code 1 = .ok (.invokespecial 1, 3) := by decide +kernel
theorem d3_4 : decode jdk_91_method_1_code 4 = .ok (.return_, 1) := by decide +kernel
theorem d4_0 : decode jdk_2729_method_1_code 0 = .ok (.aload_n 0, 1) := by decide +kernel
theorem d4_1 : decode jdk_2729_method_1_code 1 = .ok (.invokespecial 1, 3) := by decide +kernel
theorem d4_4 : decode jdk_2729_method_1_code 4 = .ok (.aload_n 0, 1) := by decide +kernel
theorem d4_5 : decode jdk_2729_method_1_code 5 = .ok (.iconst 0, 1) := by decide +kernel
theorem d4_6 : decode jdk_2729_method_1_code 6 = .ok (.putfield 7, 3) := by decide +kernel
theorem d4_9 : decode jdk_2729_method_1_code 9 = .ok (.aload_n 0, 1) := by decide +kernel
theorem d4_10 : decode jdk_2729_method_1_code 10 = .ok (.iconst 0, 1) := by decide +kernel
theorem d4_11 : decode jdk_2729_method_1_code 11 = .ok (.putfield 13, 3) := by decide +kernel
theorem d4_14 : decode jdk_2729_method_1_code 14 = .ok (.aload_n 0, 1) := by decide +kernel
theorem d4_15 : decode jdk_2729_method_1_code 15 = .ok (.aconst_null, 1) := by decide +kernel
theorem d4_16 : decode jdk_2729_method_1_code 16 = .ok (.putfield 16, 3) := by decide +kernel
theorem d4_19 : decode jdk_2729_method_1_code 19 = .ok (.return_, 1) := by decide +kernel
theorem d5_0 : decode jdk_2756_method_1_code 0 = .ok (.aload_n 0, 1) := by decide +kernel
theorem d5_1 : decode jdk_2756_method_1_code 1 = .ok (.invokespecial 1, 3) := by decide +kernel
theorem d5_4 : decode jdk_2756_method_1_code 4 = .ok (.aload_n 0, 1) := by decide +kernel
theorem d5_5 : decode jdk_2756_method_1_code 5 = .ok (.aload_n 1, 1) := by decide +kernel
theorem d5_6 : decode jdk_2756_method_1_code 6 = .ok (.putfield 7, 3) := by decide +kernel
theorem d5_9 : decode jdk_2756_method_1_code 9 = .ok (.return_, 1) := by decide +kernel
theorem d6_0 : decode jdk_2756_method_2_code 0 = .ok (.aload_n 0, 1) := by decide +kernel
theorem d6_1 : decode jdk_2756_method_2_code 1 = .ok (.new 13, 3) := by decide +kernel
theorem d6_4 : decode jdk_2756_method_2_code 4 = .ok (.dup, 1) := by decide +kernel
theorem d6_5 : decode jdk_2756_method_2_code 5 = .ok (.invokespecial 15, 3) := by decide +kernel
theorem d6_8 : decode jdk_2756_method_2_code 8 = .ok (.invokespecial 16, 3) := by decide +kernel
theorem d6_11 : decode jdk_2756_method_2_code 11 = .ok (.return_, 1) := by decide +kernel
theorem d7_0 : decode prog_57_method_1_code 0 = .ok (.aload_n 0, 1) := by decide +kernel
theorem d7_1 : decode prog_57_method_1_code 1 = .ok (.invokespecial 1, 3) := by decide +kernel
theorem d7_4 : decode prog_57_method_1_code 4 = .ok (.aload_n 0, 1) := by decide +kernel
theorem d7_5 : decode prog_57_method_1_code 5 = .ok (.iconst 1, 1) := by decide +kernel
theorem d7_6 : decode prog_57_method_1_code 6 = .ok (.putfield 7, 3) := by decide +kernel
theorem d7_9 : decode prog_57_method_1_code 9 = .ok (.aload_n 0, 1) := by decide +kernel
theorem d7_10 : decode prog_57_method_1_code 10 = .ok (.new 13, 3) := by decide +kernel
theorem d7_13 : decode prog_57_method_1_code 13 = .ok (.dup, 1) := by decide +kernel
theorem d7_14 : decode prog_57_method_1_code 14 = .ok (.invokespecial 15, 3) := by decide +kernel
theorem d7_17 : decode prog_57_method_1_code 17 = .ok (.putfield 16, 3) := by decide +kernel
theorem d7_20 : decode prog_57_method_1_code 20 = .ok (.aload_n 0, 1) := by decide +kernel
theorem d7_21 : decode prog_57_method_1_code 21 = .ok (.aload_n 1, 1) := by decide +kernel
theorem d7_22 : decode prog_57_method_1_code 22 = .ok (.putfield 20, 3) := by decide +kernel
theorem d7_25 : decode prog_57_method_1_code 25 = .ok (.aload_n 0, 1) := by decide +kernel
theorem d7_26 : decode prog_57_method_1_code 26 = .ok (.aload_n 2, 1) := by decide +kernel
theorem d7_27 : decode prog_57_method_1_code 27 = .ok (.putfield 24, 3) := by decide +kernel
theorem d7_30 : decode prog_57_method_1_code 30 = .ok (.aload_n 0, 1) := by decide +kernel
theorem d7_31 : decode prog_57_method_1_code 31 = .ok (.aload_n 3, 1) := by decide +kernel
theorem d7_32 : decode prog_57_method_1_code 32 = .ok (.putfield 28, 3) := by decide +kernel
theorem d7_35 : decode prog_57_method_1_code 35 = .ok (.return_, 1) := by decide +kernel
theorem d8_0 : decode method_3_code 0 = .ok (.iload_n 0, 1) := by decide +kernel
theorem d8_1 : decode method_3_code 1 = .ok (.iload_n 1, 1) := by decide +kernel
theorem d8_2 : decode method_3_code 2 = .ok (.iushr, 1) := by decide +kernel
theorem d8_3 : decode method_3_code 3 = .ok (.iconst 1, 1) := by decide +kernel
theorem d8_4 : decode method_3_code 4 = .ok (.iand, 1) := by decide +kernel
theorem d8_5 : decode method_3_code 5 = .ok (.ifCond .eq 6, 3) := by decide +kernel
theorem d8_11 : decode method_3_code 11 = .ok (.lload_n 2, 1) := by decide +kernel
theorem d8_12 : decode method_3_code 12 = .ok (.bipush 8, 2) := by decide +kernel
theorem d8_14 : decode method_3_code 14 = .ok (.iload_n 1, 1) := by decide +kernel
theorem d8_15 : decode method_3_code 15 = .ok (.imul, 1) := by decide +kernel
theorem d8_16 : decode method_3_code 16 = .ok (.lushr, 1) := by decide +kernel
theorem d8_17 : decode method_3_code 17 = .ok (.ldc2_w 29, 3) := by decide +kernel
theorem d8_20 : decode method_3_code 20 = .ok (.land, 1) := by decide +kernel
theorem d8_21 : decode method_3_code 21 = .ok (.l2i, 1) := by decide +kernel
theorem d8_22 : decode method_3_code 22 = .ok (.i2c, 1) := by decide +kernel
theorem d8_23 : decode method_3_code 23 = .ok (.ireturn, 1) := by decide +kernel
theorem d8_8 : decode method_3_code 8 = .ok (.bipush 10, 2) := by decide +kernel
theorem d8_10 : decode method_3_code 10 = .ok (.ireturn, 1) := by decide +kernel
theorem d9_0 : decode prog_57_method_36_code 0 = .ok (.iload_n 1, 1) := by decide +kernel
theorem d9_1 : decode prog_57_method_36_code 1 = .ok (.aload_n 0, 1) := by decide +kernel
theorem d9_2 : decode prog_57_method_36_code 2 = .ok (.getfield 280, 3) := by decide +kernel
theorem d9_5 : decode prog_57_method_36_code 5 = .ok (.if_icmp .ge 13, 3) := by decide +kernel
theorem d9_8 : decode prog_57_method_36_code 8 = .ok (.aload_n 0, 1) := by decide +kernel
theorem d9_9 : decode prog_57_method_36_code 9 = .ok (.iconst 0, 1) := by decide +kernel
theorem d9_10 : decode prog_57_method_36_code 10 = .ok (.putfield 280, 3) := by decide +kernel
theorem d9_13 : decode prog_57_method_36_code 13 = .ok (.aload_n 0, 1) := by decide +kernel
theorem d9_14 : decode prog_57_method_36_code 14 = .ok (.iconst 1, 1) := by decide +kernel
theorem d9_15 : decode prog_57_method_36_code 15 = .ok (.putfield 7, 3) := by decide +kernel
theorem d9_18 : decode prog_57_method_36_code 18 = .ok (.aload_n 0, 1) := by decide +kernel
theorem d9_19 : decode prog_57_method_36_code 19 = .ok (.getfield 280, 3) := by decide +kernel
theorem d9_22 : decode prog_57_method_36_code 22 = .ok (.iload_n 1, 1) := by decide +kernel
theorem d9_23 : decode prog_57_method_36_code 23 = .ok (.if_icmp .ge 40, 3) := by decide +kernel
theorem d9_63 : decode prog_57_method_36_code 63 = .ok (.aload_n 0, 1) := by decide +kernel
theorem d9_64 : decode prog_57_method_36_code 64 = .ok (.getfield 7, 3) := by decide +kernel
theorem d9_67 : decode prog_57_method_36_code 67 = .ok (.ireturn, 1) := by decide +kernel
theorem d9_26 : decode prog_57_method_36_code 26 = .ok (.aload_n 0, 1) := by decide +kernel
theorem d9_27 : decode prog_57_method_36_code 27 = .ok (.getfield 20, 3) := by decide +kernel
theorem d9_30 : decode prog_57_method_36_code 30 = .ok (.aload_n 0, 1) := by decide +kernel
theorem d9_31 : decode prog_57_method_36_code 31 = .ok (.getfield 280, 3) := by decide +kernel
theorem d9_34 : decode prog_57_method_36_code 34 = .ok (.caload, 1) := by decide +kernel
theorem d9_35 : decode prog_57_method_36_code 35 = .ok (.bipush 10, 2) := by decide +kernel
theorem d9_37 : decode prog_57_method_36_code 37 = .ok (.if_icmp .ne 13, 3) := by decide +kernel
theorem d9_50 : decode prog_57_method_36_code 50 = .ok (.aload_n 0, 1) := by decide +kernel
theorem d9_51 : decode prog_57_method_36_code 51 = .ok (.dup, 1) := by decide +kernel
theorem d9_52 : decode prog_57_method_36_code 52 = .ok (.getfield 280, 3) := by decide +kernel
theorem d9_55 : decode prog_57_method_36_code 55 = .ok (.iconst 1, 1) := by decide +kernel
theorem d9_56 : decode prog_57_method_36_code 56 = .ok (.iadd, 1) := by decide +kernel
theorem d9_57 : decode prog_57_method_36_code 57 = .ok (.putfield 280, 3) := by decide +kernel
theorem d9_60 : decode prog_57_method_36_code 60 = .ok (.goto (-42), 3) := by decide +kernel
theorem d9_40 : decode prog_57_method_36_code 40 = .ok (.aload_n 0, 1) := by decide +kernel
theorem d9_41 : decode prog_57_method_36_code 41 = .ok (.dup, 1) := by decide +kernel
theorem d9_42 : decode prog_57_method_36_code 42 = .ok (.getfield 7, 3) := by decide +kernel
theorem d9_45 : decode prog_57_method_36_code 45 = .ok (.iconst 1, 1) := by decide +kernel
theorem d9_46 : decode prog_57_method_36_code 46 = .ok (.iadd, 1) := by decide +kernel
theorem d9_47 : decode prog_57_method_36_code 47 = .ok (.putfield 7, 3) := by decide +kernel
theorem d10_0 : decode method_4_code 0 = .ok (.iconst 1, 1) := by decide +kernel
theorem d10_1 : decode method_4_code 1 = .ok (.istore_n 2, 1) := by decide +kernel
theorem d10_2 : decode method_4_code 2 = .ok (.iload_n 1, 1) := by decide +kernel
theorem d10_3 : decode method_4_code 3 = .ok (.ifCond .le 14, 3) := by decide +kernel
theorem d10_6 : decode method_4_code 6 = .ok (.aload_n 0, 1) := by decide +kernel
theorem d10_7 : decode method_4_code 7 = .ok (.iconst 0, 1) := by decide +kernel
theorem d10_8 : decode method_4_code 8 = .ok (.caload, 1) := by decide +kernel
theorem d10_9 : decode method_4_code 9 = .ok (.bipush 10, 2) := by decide +kernel
theorem d10_11 : decode method_4_code 11 = .ok (.if_icmp .ne 6, 3) := by decide +kernel
theorem d10_14 : decode method_4_code 14 = .ok (.iinc 2 1, 3) := by decide +kernel
theorem d10_17 : decode method_4_code 17 = .ok (.iload_n 1, 1) := by decide +kernel
theorem d10_18 : decode method_4_code 18 = .ok (.iconst 1, 1) := by decide +kernel
theorem d10_19 : decode method_4_code 19 = .ok (.if_icmp .le 14, 3) := by decide +kernel
theorem d10_22 : decode method_4_code 22 = .ok (.aload_n 0, 1) := by decide +kernel
theorem d10_23 : decode method_4_code 23 = .ok (.iconst 1, 1) := by decide +kernel
theorem d10_24 : decode method_4_code 24 = .ok (.caload, 1) := by decide +kernel
theorem d10_25 : decode method_4_code 25 = .ok (.bipush 10, 2) := by decide +kernel
theorem d10_27 : decode method_4_code 27 = .ok (.if_icmp .ne 6, 3) := by decide +kernel
theorem d10_30 : decode method_4_code 30 = .ok (.iinc 2 1, 3) := by decide +kernel
theorem d10_33 : decode method_4_code 33 = .ok (.iload_n 1, 1) := by decide +kernel
theorem d10_34 : decode method_4_code 34 = .ok (.iconst 2, 1) := by decide +kernel
theorem d10_35 : decode method_4_code 35 = .ok (.if_icmp .le 14, 3) := by decide +kernel
theorem d10_38 : decode method_4_code 38 = .ok (.aload_n 0, 1) := by decide +kernel
theorem d10_39 : decode method_4_code 39 = .ok (.iconst 2, 1) := by decide +kernel
theorem d10_40 : decode method_4_code 40 = .ok (.caload, 1) := by decide +kernel
theorem d10_41 : decode method_4_code 41 = .ok (.bipush 10, 2) := by decide +kernel
theorem d10_43 : decode method_4_code 43 = .ok (.if_icmp .ne 6, 3) := by decide +kernel
theorem d10_46 : decode method_4_code 46 = .ok (.iinc 2 1, 3) := by decide +kernel
theorem d10_49 : decode method_4_code 49 = .ok (.iload_n 1, 1) := by decide +kernel
theorem d10_50 : decode method_4_code 50 = .ok (.iconst 3, 1) := by decide +kernel
theorem d10_51 : decode method_4_code 51 = .ok (.if_icmp .le 14, 3) := by decide +kernel
theorem d10_54 : decode method_4_code 54 = .ok (.aload_n 0, 1) := by decide +kernel
theorem d10_55 : decode method_4_code 55 = .ok (.iconst 3, 1) := by decide +kernel
theorem d10_56 : decode method_4_code 56 = .ok (.caload, 1) := by decide +kernel
theorem d10_57 : decode method_4_code 57 = .ok (.bipush 10, 2) := by decide +kernel
theorem d10_59 : decode method_4_code 59 = .ok (.if_icmp .ne 6, 3) := by decide +kernel
theorem d10_62 : decode method_4_code 62 = .ok (.iinc 2 1, 3) := by decide +kernel
theorem d10_65 : decode method_4_code 65 = .ok (.iload_n 1, 1) := by decide +kernel
theorem d10_66 : decode method_4_code 66 = .ok (.iconst 4, 1) := by decide +kernel
theorem d10_67 : decode method_4_code 67 = .ok (.if_icmp .le 14, 3) := by decide +kernel
theorem d10_70 : decode method_4_code 70 = .ok (.aload_n 0, 1) := by decide +kernel
theorem d10_71 : decode method_4_code 71 = .ok (.iconst 4, 1) := by decide +kernel
theorem d10_72 : decode method_4_code 72 = .ok (.caload, 1) := by decide +kernel
theorem d10_73 : decode method_4_code 73 = .ok (.bipush 10, 2) := by decide +kernel
theorem d10_75 : decode method_4_code 75 = .ok (.if_icmp .ne 6, 3) := by decide +kernel
theorem d10_78 : decode method_4_code 78 = .ok (.iinc 2 1, 3) := by decide +kernel
theorem d10_81 : decode method_4_code 81 = .ok (.iload_n 1, 1) := by decide +kernel
theorem d10_82 : decode method_4_code 82 = .ok (.iconst 5, 1) := by decide +kernel
theorem d10_83 : decode method_4_code 83 = .ok (.if_icmp .le 14, 3) := by decide +kernel
theorem d10_86 : decode method_4_code 86 = .ok (.aload_n 0, 1) := by decide +kernel
theorem d10_87 : decode method_4_code 87 = .ok (.iconst 5, 1) := by decide +kernel
theorem d10_88 : decode method_4_code 88 = .ok (.caload, 1) := by decide +kernel
theorem d10_89 : decode method_4_code 89 = .ok (.bipush 10, 2) := by decide +kernel
theorem d10_91 : decode method_4_code 91 = .ok (.if_icmp .ne 6, 3) := by decide +kernel
theorem d10_94 : decode method_4_code 94 = .ok (.iinc 2 1, 3) := by decide +kernel
theorem d10_97 : decode method_4_code 97 = .ok (.iload_n 2, 1) := by decide +kernel
theorem d10_98 : decode method_4_code 98 = .ok (.ireturn, 1) := by decide +kernel
theorem pd0 : parseMethodDescriptor "()V" = some ⟨[], none⟩ := by decide +kernel
theorem pd1 : parseMethodDescriptor "(Ljava/util/NavigableMap;)V" = some ⟨[(.object "java/util/NavigableMap")], none⟩ := by decide +kernel
theorem pd2 : parseMethodDescriptor "(IIJ)C" = some ⟨[.int, .int, .long], some .char⟩ := by decide +kernel
theorem pd3 : parseMethodDescriptor "([CLcom/example/gate2/gate2/BeansException;Ljava/lang/String;)V" = some ⟨[(.array .char), (.object "com/example/gate2/gate2/BeansException"), (.object "java/lang/String")], none⟩ := by decide +kernel
theorem pd4 : parseMethodDescriptor "(I)I" = some ⟨[.int], some .int⟩ := by decide +kernel
theorem pd5 : parseMethodDescriptor "([CI)I" = some ⟨[(.array .char), .int], some .int⟩ := by decide +kernel
theorem pn0 : plainName "java/util/AbstractMap" = true := by first | (simp [plainName, overriddenIn]; done) | decide +kernel
theorem pn1 : plainName "java/util/AbstractCollection" = true := by first | (simp [plainName, overriddenIn]; done) | decide +kernel
theorem pn2 : plainName "java/util/AbstractSet" = true := by first | (simp [plainName, overriddenIn]; done) | decide +kernel
theorem pn3 : plainName "java/util/TreeMap" = true := by first | (simp [plainName, overriddenIn]; done) | decide +kernel
theorem pn4 : plainName "java/util/TreeSet" = true := by first | (simp [plainName, overriddenIn]; done) | decide +kernel
theorem pn5 : plainName "com/example/gate2/gate2/xml/XmlCursor" = true := by first | (simp [plainName, overriddenIn]; done) | decide +kernel
theorem pn6 : plainName "com/example/gate2/gate2/xml/XmlCursorLineAtPinLaw" = true := by first | (simp [plainName, overriddenIn]; done) | decide +kernel
end Facts

theorem own_p (s : Int32) : ∃ k : Nat, ((s &&& 2147483647) % 7).toInt = (k : Int) ∧ k ≤ 6 := by
  have h1 := c_mask s 2147483647 31 (by decide) (by decide)
  have h2 := c_irem (s &&& 2147483647) 7 7 (by decide)
  have h6 : ((2 ^ 31 : Nat) : Int) = 2147483648 := by decide
  rw [h6] at h1
  refine ⟨((s &&& 2147483647) % 7).toInt.toNat, ?_, ?_⟩ <;> omega
def own_lines (f : Nat → Int32) : Nat → Int32
  | 0 => 1
  | n + 1 => if f n = 10 then own_lines f n + 1 else own_lines f n
theorem own_add1 {x : Int32} {k : Nat} (h : x.toInt = (k : Int)) (h1 : k < 100) : (x + 1).toInt = ((k + 1 : Nat) : Int) := by
  have h2 := c_iadd x 1
  have h3 : ((1 : Int32)).toInt = 1 := by decide
  rw [h3] at h2
  have h4 := rng32 (x + 1)
  omega
theorem own_min {p k : Nat} (h : p ≤ k) : min p (k + 1) = min p k := by omega

set_option maxRecDepth 65536 in
set_option maxHeartbeats 40000000 in
theorem rmAM (l : Launch) (Z : State) (a0 : Array Value) (hw : ∀ d ∈ tables_1, d.before a0 Z = true) (ob : Addr) (h0 : Heap) (n0 : Nat)  :
    Con l Z (⟨"java/util/AbstractMap", "<init>", "()V"⟩ : MethodName) jdk_71_method_1_code 1 none ({ frames := 1, cells := 0, slots := 0, locals := 12 } : Room) #[(.ref ob)] h0 n0 (fun v h => v = none ∧ h0 = h) := by
  refine Con.of_body (plainFor_of_name pn0) #[.val (.ref ob)] (fun m => by first | (simp [entryFrame, mkF, argsToLocals, Value.category, maxLocals]; done) | rfl) ?_
  intro p e s m below meth c C
  refine r_aload_n C d1_0 (pc' := 1) rfl rfl rfl ?_
  refine r_initO C (t45 hw) (t22 hw) (t23 hw) d1_1 (pc' := 4) rfl rfl (by decide) (W := 0) (Nat.le_of_eq rfl) (by decide) ?_
  exact r_return0 C d1_4 ⟨rfl, rfl⟩ (by decide) (by decide)
set_option maxRecDepth 65536 in
set_option maxHeartbeats 40000000 in
theorem rmAC (l : Launch) (Z : State) (a0 : Array Value) (hw : ∀ d ∈ tables_1, d.before a0 Z = true) (ob : Addr) (h0 : Heap) (n0 : Nat)  :
    Con l Z (⟨"java/util/AbstractCollection", "<init>", "()V"⟩ : MethodName) jdk_22_method_1_code 1 none ({ frames := 1, cells := 0, slots := 0, locals := 12 } : Room) #[(.ref ob)] h0 n0 (fun v h => v = none ∧ h0 = h) := by
  refine Con.of_body (plainFor_of_name pn1) #[.val (.ref ob)] (fun m => by first | (simp [entryFrame, mkF, argsToLocals, Value.category, maxLocals]; done) | rfl) ?_
  intro p e s m below meth c C
  refine r_aload_n C d2_0 (pc' := 1) rfl rfl rfl ?_
  refine r_initO C (t68 hw) (t22 hw) (t23 hw) d2_1 (pc' := 4) rfl rfl (by decide) (W := 0) (Nat.le_of_eq rfl) (by decide) ?_
  exact r_return0 C d2_4 ⟨rfl, rfl⟩ (by decide) (by decide)
set_option maxRecDepth 65536 in
set_option maxHeartbeats 40000000 in
theorem rmAS (l : Launch) (Z : State) (a0 : Array Value) (hw : ∀ d ∈ tables_1, d.before a0 Z = true) (ob : Addr) (h0 : Heap) (n0 : Nat)  :
    Con l Z (⟨"java/util/AbstractSet", "<init>", "()V"⟩ : MethodName) jdk_91_method_1_code 1 none ({ frames := 2, cells := 0, slots := 0, locals := 24 } : Room) #[(.ref ob)] h0 n0 (fun v h => v = none ∧ h0 = h) := by
  refine Con.of_body (plainFor_of_name pn2) #[.val (.ref ob)] (fun m => by first | (simp [entryFrame, mkF, argsToLocals, Value.category, maxLocals]; done) | rfl) ?_
  intro p e s m below meth c C
  refine r_aload_n C d3_0 (pc' := 1) rfl rfl rfl ?_
  refine r_callI (y := (⟨"java/util/AbstractCollection", "<init>", "()V"⟩ : MethodName)) (a := ob) (as := []) (st := []) C rfl (t62 hw) (t63 hw) (t66 hw) (t67 hw) (by decide) pd0 rfl rfl d3_1 (pc' := 4) rfl rfl (W := 0) (Nat.le_of_eq rfl) (rmAC l Z a0 hw ob h0 n0) (by decide) (by decide) (by decide) (by decide) ?_
  rintro _ _ ⟨rfl, rfl⟩
  show Run _ _ _ _ _ _ _ _ _ _ _ _ _ _ _ h0 0 0 4 #[.val (.ref ob)] []
  exact r_return0 C d3_4 ⟨rfl, rfl⟩ (by decide) (by decide)
set_option maxRecDepth 65536 in
set_option maxHeartbeats 40000000 in
theorem rmTM (l : Launch) (Z : State) (a0 : Array Value) (hw : ∀ d ∈ tables_1, d.before a0 Z = true) (ob : Addr) (h0 : Heap) (n0 : Nat) (Z0 : n0 ≤ h0.size) (ge_ob : n0 ≤ ob) (E_ob : Exa Z h0 ob "java/util/TreeMap") (F_size_ob : Fld Z h0 ob "java/util/TreeMap" "size" "I" (.int (0 : Int32))) (F_modCount_ob : Fld Z h0 ob "java/util/TreeMap" "modCount" "I" (.int (0 : Int32))) (F_comparator_ob : Fld Z h0 ob "java/util/TreeMap" "comparator" "Ljava/util/Comparator;" .null) :
    Con l Z (⟨"java/util/TreeMap", "<init>", "()V"⟩ : MethodName) jdk_2729_method_1_code 1 none ({ frames := 2, cells := 0, slots := 0, locals := 24 } : Room) #[(.ref ob)] h0 n0 (fun v h => v = none ∧ Keep h0 h [ob]) := by
  refine Con.of_body (plainFor_of_name pn3) #[.val (.ref ob)] (fun m => by first | (simp [entryFrame, mkF, argsToLocals, Value.category, maxLocals]; done) | rfl) ?_
  intro p e s m below meth c C
  have KK := Keep.refl h0 [ob]
  refine r_aload_n C d4_0 (pc' := 1) rfl rfl rfl ?_
  refine r_callI (y := (⟨"java/util/AbstractMap", "<init>", "()V"⟩ : MethodName)) (a := ob) (as := []) (st := []) C rfl (t39 hw) (t40 hw) (t43 hw) (t44 hw) (by decide) pd0 rfl rfl d4_1 (pc' := 4) rfl rfl (W := 0) (Nat.le_of_eq rfl) (rmAM l Z a0 hw ob h0 n0) (by decide) (by decide) (by decide) (by decide) ?_
  rintro _ _ ⟨rfl, rfl⟩
  show Run _ _ _ _ _ _ _ _ _ _ _ _ _ _ _ h0 0 0 4 #[.val (.ref ob)] []
  refine r_aload_n C d4_4 (pc' := 5) rfl rfl rfl ?_
  refine r_iconst C d4_5 (pc' := 6) rfl (z := (0 : Int32)) rfl ?_
  refine r_putfield (host := "") C (Or.inl (t46 hw)) Via.refl (Or.inl (t47 hw)) (t33 hw) (ty := .int) (by decide) d4_6 (pc' := 9) rfl rfl rfl ge_ob F_size_ob E_ob ?_
  intro h1 K1 E_ob F_size_ob P1
  have F_comparator_ob := P1 (Or.inr (t51 hw)) (Or.inl (t47 hw)) (by decide) (t' := (.object "java/util/Comparator")) (by decide) F_comparator_ob
  have F_modCount_ob := P1 (Or.inl (t49 hw)) (Or.inl (t47 hw)) (by decide) (t' := .int) (by decide) F_modCount_ob
  have Z0 := Nat.le_trans Z0 K1.1
  have KK := KK.trans K1 (fun x q => Or.inl q)
  refine r_aload_n C d4_9 (pc' := 10) rfl rfl rfl ?_
  refine r_iconst C d4_10 (pc' := 11) rfl (z := (0 : Int32)) rfl ?_
  refine r_putfield (host := "") C (Or.inl (t48 hw)) Via.refl (Or.inl (t49 hw)) (t33 hw) (ty := .int) (by decide) d4_11 (pc' := 14) rfl rfl rfl ge_ob F_modCount_ob E_ob ?_
  intro h2 K2 E_ob F_modCount_ob P2
  have F_comparator_ob := P2 (Or.inr (t51 hw)) (Or.inl (t49 hw)) (by decide) (t' := (.object "java/util/Comparator")) (by decide) F_comparator_ob
  have F_size_ob := P2 (Or.inl (t47 hw)) (Or.inl (t49 hw)) (by decide) (t' := .int) (by decide) F_size_ob
  have Z0 := Nat.le_trans Z0 K2.1
  have KK := KK.trans K2 (fun x q => Or.inl q)
  refine r_aload_n C d4_14 (pc' := 15) rfl rfl rfl ?_
  refine r_aconst_null C d4_15 (pc' := 16) rfl ?_
  refine r_putfield (host := "") C (Or.inl (t50 hw)) Via.refl (Or.inr ⟨(t51 hw), rfl, rfl⟩) (t33 hw) (ty := (.object "java/util/Comparator")) (by decide) d4_16 (pc' := 19) rfl rfl rfl ge_ob F_comparator_ob E_ob ?_
  intro h3 K3 E_ob F_comparator_ob P3
  have F_modCount_ob := P3 (Or.inl (t49 hw)) (Or.inr (t51 hw)) (by decide) (t' := .int) (by decide) F_modCount_ob
  have F_size_ob := P3 (Or.inl (t47 hw)) (Or.inr (t51 hw)) (by decide) (t' := .int) (by decide) F_size_ob
  have Z0 := Nat.le_trans Z0 K3.1
  have KK := KK.trans K3 (fun x q => Or.inl q)
  exact r_return0 C d4_19 ⟨rfl, KK⟩ (by decide) (by decide)
set_option maxRecDepth 65536 in
set_option maxHeartbeats 40000000 in
theorem rmT1 (l : Launch) (Z : State) (a0 : Array Value) (hw : ∀ d ∈ tables_1, d.before a0 Z = true) (ob : Addr) (mp : Addr) (h0 : Heap) (n0 : Nat) (Z0 : n0 ≤ h0.size) (ge_ob : n0 ≤ ob) (E_ob : Exa Z h0 ob "java/util/TreeSet") (F_m_ob : Fld Z h0 ob "java/util/TreeSet" "m" "Ljava/util/NavigableMap;" .null) :
    Con l Z (⟨"java/util/TreeSet", "<init>", "(Ljava/util/NavigableMap;)V"⟩ : MethodName) jdk_2756_method_1_code 2 none ({ frames := 3, cells := 0, slots := 0, locals := 36 } : Room) #[(.ref ob), (.ref mp)] h0 n0 (fun v h => v = none ∧ Keep h0 h [ob]) := by
  refine Con.of_body (plainFor_of_name pn4) #[.val (.ref ob), .val (.ref mp)] (fun m => by first | (simp [entryFrame, mkF, argsToLocals, Value.category, maxLocals]; done) | rfl) ?_
  intro p e s m below meth c C
  have KK := Keep.refl h0 [ob]
  refine r_aload_n C d5_0 (pc' := 1) rfl rfl rfl ?_
  refine r_callI (y := (⟨"java/util/AbstractSet", "<init>", "()V"⟩ : MethodName)) (a := ob) (as := []) (st := []) C rfl (t56 hw) (t57 hw) (t60 hw) (t61 hw) (by decide) pd0 rfl rfl d5_1 (pc' := 4) rfl rfl (W := 0) (Nat.le_of_eq rfl) (rmAS l Z a0 hw ob h0 n0) (by decide) (by decide) (by decide) (by decide) ?_
  rintro _ _ ⟨rfl, rfl⟩
  show Run _ _ _ _ _ _ _ _ _ _ _ _ _ _ _ h0 0 0 4 #[.val (.ref ob), .val (.ref mp)] []
  refine r_aload_n C d5_4 (pc' := 5) rfl rfl rfl ?_
  refine r_aload_n C d5_5 (pc' := 6) rfl rfl rfl ?_
  refine r_putfield (host := "") C (Or.inl (t69 hw)) Via.refl (Or.inl (t70 hw)) (t27 hw) (ty := (.object "java/util/NavigableMap")) (by decide) d5_6 (pc' := 9) rfl rfl rfl ge_ob F_m_ob E_ob ?_
  intro h1 K1 E_ob F_m_ob P1
  have Z0 := Nat.le_trans Z0 K1.1
  have KK := KK.trans K1 (fun x q => Or.inl q)
  exact r_return0 C d5_9 ⟨rfl, KK⟩ (by decide) (by decide)
set_option maxRecDepth 65536 in
set_option maxHeartbeats 40000000 in
theorem rmT0 (l : Launch) (Z : State) (a0 : Array Value) (hw : ∀ d ∈ tables_1, d.before a0 Z = true) (ob : Addr) (h0 : Heap) (n0 : Nat) (Z0 : n0 ≤ h0.size) (ge_ob : n0 ≤ ob) (E_ob : Exa Z h0 ob "java/util/TreeSet") (F_m_ob : Fld Z h0 ob "java/util/TreeSet" "m" "Ljava/util/NavigableMap;" .null) :
    Con l Z (⟨"java/util/TreeSet", "<init>", "()V"⟩ : MethodName) jdk_2756_method_2_code 1 none ({ frames := 4, cells := 1, slots := 9, locals := 49 } : Room) #[(.ref ob)] h0 n0 (fun v h => v = none ∧ Keep h0 h [ob]) := by
  refine Con.of_body (plainFor_of_name pn4) #[.val (.ref ob)] (fun m => by first | (simp [entryFrame, mkF, argsToLocals, Value.category, maxLocals]; done) | rfl) ?_
  intro p e s m below meth c C
  have KK := Keep.refl h0 [ob]
  refine r_aload_n C d6_0 (pc' := 1) rfl rfl rfl ?_
  refine r_new C (t32 hw) (t33 hw) (t34 hw) d6_1 (pc' := 4) rfl (by decide) (by decide) ?_
  intro mp h1 ha_mp K1 E_mp D_mp
  have ne_ob_mp : ob ≠ mp := Nat.ne_of_lt (Nat.lt_of_lt_of_le E_ob.lt (Nat.le_of_eq (Eq.symm ha_mp)))
  have ne_mp_ob : mp ≠ ob := fun q => ne_ob_mp q.symm
  have ge_mp : n0 ≤ mp := Nat.le_trans Z0 (Nat.le_of_eq (Eq.symm ha_mp))
  have E_ob := E_ob.keep K1
  have F_m_ob := F_m_ob.keep K1 nin0
  have Z0 := Nat.le_trans Z0 K1.1
  have F_size_mp : Fld Z h1 mp "java/util/TreeMap" "size" "I" (.int (0 : Int32)) := D_mp (Or.inl (t47 hw)) (ty := .int) (by decide)
  have F_modCount_mp : Fld Z h1 mp "java/util/TreeMap" "modCount" "I" (.int (0 : Int32)) := D_mp (Or.inl (t49 hw)) (ty := .int) (by decide)
  have F_comparator_mp : Fld Z h1 mp "java/util/TreeMap" "comparator" "Ljava/util/Comparator;" .null := D_mp (Or.inr (t51 hw)) (ty := (.object "java/util/Comparator")) (by decide)
  have KK := KK.trans K1 (fun x q => nomatch q)
  have hgm : h0.size ≤ mp := by omega
  refine r_dup C d6_4 (pc' := 5) rfl rfl ?_
  refine r_callI (y := (⟨"java/util/TreeMap", "<init>", "()V"⟩ : MethodName)) (a := mp) (as := []) (st := [(.ref mp), (.ref ob)]) C rfl (t35 hw) (t36 hw) (t34 hw) (t38 hw) (by decide) pd0 rfl rfl d6_5 (pc' := 8) rfl rfl (W := 2) (Nat.le_of_eq rfl) (rmTM l Z a0 hw mp h1 n0 Z0 ge_mp E_mp F_size_mp F_modCount_mp F_comparator_mp) (by decide) (by decide) (by decide) (by decide) ?_
  rintro _ h2 ⟨rfl, K2⟩
  have E_ob := E_ob.keep K2
  have F_m_ob := F_m_ob.keep K2 (ninS ne_ob_mp nin0)
  have Z0 := Nat.le_trans Z0 K2.1
  have KK := KK.trans K2 (allS (Or.inr hgm) all0)
  show Run _ _ _ _ _ _ _ _ _ _ _ _ _ _ _ h2 1 9 8 #[.val (.ref ob)] [(.ref mp), (.ref ob)]
  refine r_callI (y := (⟨"java/util/TreeSet", "<init>", "(Ljava/util/NavigableMap;)V"⟩ : MethodName)) (a := ob) (as := [(.ref mp)]) (st := []) C rfl (t52 hw) (t53 hw) (t28 hw) (t55 hw) (by decide) pd1 rfl rfl d6_8 (pc' := 11) rfl rfl (W := 0) (Nat.le_of_eq rfl) (rmT1 l Z a0 hw ob mp h2 n0 Z0 ge_ob E_ob F_m_ob) (by decide) (by decide) (by decide) (by decide) ?_
  rintro _ h3 ⟨rfl, K3⟩
  have KK := KK.trans K3 (fun x q => Or.inl q)
  show Run _ _ _ _ _ _ _ _ _ _ _ _ _ _ _ h3 1 9 11 #[.val (.ref ob)] []
  exact r_return0 C d6_11 ⟨rfl, KK⟩ (by decide) (by decide)
set_option maxRecDepth 65536 in
set_option maxHeartbeats 40000000 in
theorem rmX (l : Launch) (Z : State) (a0 : Array Value) (hw : ∀ d ∈ tables_1, d.before a0 Z = true) (ob : Addr) (tx : Addr) (sr : Addr) (h0 : Heap) (n0 : Nat) (Z0 : n0 ≤ h0.size) (ge_ob : n0 ≤ ob) (E_ob : Exa Z h0 ob "com/example/gate2/gate2/xml/XmlCursor") (F_countedLine_ob : Fld Z h0 ob "com/example/gate2/gate2/xml/XmlCursor" "countedLine" "I" (.int (0 : Int32))) (F_entities_ob : Fld Z h0 ob "com/example/gate2/gate2/xml/XmlCursor" "entities" "Ljava/util/Set;" .null) (F_text_ob : Fld Z h0 ob "com/example/gate2/gate2/xml/XmlCursor" "text" "[C" .null) (F_illegal_ob : Fld Z h0 ob "com/example/gate2/gate2/xml/XmlCursor" "illegal" "Lcom/example/gate2/gate2/BeansException;" .null) (F_source_ob : Fld Z h0 ob "com/example/gate2/gate2/xml/XmlCursor" "source" "Ljava/lang/String;" .null) (F_countedTo_ob : Fld Z h0 ob "com/example/gate2/gate2/xml/XmlCursor" "countedTo" "I" (.int (0 : Int32))) :
    Con l Z (⟨"com/example/gate2/gate2/xml/XmlCursor", "<init>", "([CLcom/example/gate2/gate2/BeansException;Ljava/lang/String;)V"⟩ : MethodName) prog_57_method_1_code 4 none ({ frames := 5, cells := 2, slots := 10, locals := 63 } : Room) #[(.ref ob), (.ref tx), .null, (.ref sr)] h0 n0 (fun v h => v = none ∧ Keep h0 h [ob] ∧ Exa Z h ob "com/example/gate2/gate2/xml/XmlCursor" ∧ Fld Z h ob "com/example/gate2/gate2/xml/XmlCursor" "countedLine" "I" (.int (1 : Int32)) ∧ Fld Z h ob "com/example/gate2/gate2/xml/XmlCursor" "text" "[C" (.ref tx) ∧ Fld Z h ob "com/example/gate2/gate2/xml/XmlCursor" "countedTo" "I" (.int (0 : Int32))) := by
  refine Con.of_body (plainFor_of_name pn5) #[.val (.ref ob), .val (.ref tx), .val .null, .val (.ref sr)] (fun m => by first | (simp [entryFrame, mkF, argsToLocals, Value.category, maxLocals]; done) | rfl) ?_
  intro p e s m below meth c C
  have KK := Keep.refl h0 [ob]
  refine r_aload_n C d7_0 (pc' := 1) rfl rfl rfl ?_
  refine r_initO C (t21 hw) (t22 hw) (t23 hw) d7_1 (pc' := 4) rfl rfl (by decide) (W := 0) (Nat.le_of_eq rfl) (by decide) ?_
  refine r_aload_n C d7_4 (pc' := 5) rfl rfl rfl ?_
  refine r_iconst C d7_5 (pc' := 6) rfl (z := (1 : Int32)) rfl ?_
  refine r_putfield (host := "") C (Or.inl (t24 hw)) Via.refl (Or.inl (t25 hw)) (t8 hw) (ty := .int) (by decide) d7_6 (pc' := 9) rfl rfl rfl ge_ob F_countedLine_ob E_ob ?_
  intro h1 K1 E_ob F_countedLine_ob P1
  have F_entities_ob := P1 (Or.inr (t72 hw)) (Or.inl (t25 hw)) (by decide) (t' := (.object "java/util/Set")) (by decide) F_entities_ob
  have F_source_ob := P1 (Or.inr (t78 hw)) (Or.inl (t25 hw)) (by decide) (t' := (.object "java/lang/String")) (by decide) F_source_ob
  have F_countedTo_ob := P1 (Or.inl (t85 hw)) (Or.inl (t25 hw)) (by decide) (t' := .int) (by decide) F_countedTo_ob
  have F_illegal_ob := P1 (Or.inr (t76 hw)) (Or.inl (t25 hw)) (by decide) (t' := (.object "com/example/gate2/gate2/BeansException")) (by decide) F_illegal_ob
  have F_text_ob := P1 (Or.inr (t74 hw)) (Or.inl (t25 hw)) (by decide) (t' := (.array .char)) (by decide) F_text_ob
  have Z0 := Nat.le_trans Z0 K1.1
  have KK := KK.trans K1 (fun x q => Or.inl q)
  refine r_aload_n C d7_9 (pc' := 10) rfl rfl rfl ?_
  refine r_new C (t26 hw) (t27 hw) (t28 hw) d7_10 (pc' := 13) rfl (by decide) (by decide) ?_
  intro ts h2 ha_ts K2 E_ts D_ts
  have ne_ob_ts : ob ≠ ts := Nat.ne_of_lt (Nat.lt_of_lt_of_le E_ob.lt (Nat.le_of_eq (Eq.symm ha_ts)))
  have ne_ts_ob : ts ≠ ob := fun q => ne_ob_ts q.symm
  have ge_ts : n0 ≤ ts := Nat.le_trans Z0 (Nat.le_of_eq (Eq.symm ha_ts))
  have E_ob := E_ob.keep K2
  have F_countedLine_ob := F_countedLine_ob.keep K2 nin0
  have F_entities_ob := F_entities_ob.keep K2 nin0
  have F_text_ob := F_text_ob.keep K2 nin0
  have F_illegal_ob := F_illegal_ob.keep K2 nin0
  have F_source_ob := F_source_ob.keep K2 nin0
  have F_countedTo_ob := F_countedTo_ob.keep K2 nin0
  have Z0 := Nat.le_trans Z0 K2.1
  have F_m_ts : Fld Z h2 ts "java/util/TreeSet" "m" "Ljava/util/NavigableMap;" .null := D_ts (Or.inl (t70 hw)) (ty := (.object "java/util/NavigableMap")) (by decide)
  have KK := KK.trans K2 (fun x q => nomatch q)
  have hgt : h0.size ≤ ts := Nat.le_trans (show h0.size ≤ _ from K1.1) (Nat.le_of_eq ha_ts.symm)
  refine r_dup C d7_13 (pc' := 14) rfl rfl ?_
  refine r_callI (y := (⟨"java/util/TreeSet", "<init>", "()V"⟩ : MethodName)) (a := ts) (as := []) (st := [(.ref ts), (.ref ob)]) C rfl (t29 hw) (t30 hw) (t28 hw) (t31 hw) (by decide) pd0 rfl rfl d7_14 (pc' := 17) rfl rfl (W := 2) (Nat.le_of_eq rfl) (rmT0 l Z a0 hw ts h2 n0 Z0 ge_ts E_ts F_m_ts) (by decide) (by decide) (by decide) (by decide) ?_
  rintro _ h3 ⟨rfl, K3⟩
  have E_ob := E_ob.keep K3
  have F_countedLine_ob := F_countedLine_ob.keep K3 (ninS ne_ob_ts nin0)
  have F_entities_ob := F_entities_ob.keep K3 (ninS ne_ob_ts nin0)
  have F_text_ob := F_text_ob.keep K3 (ninS ne_ob_ts nin0)
  have F_illegal_ob := F_illegal_ob.keep K3 (ninS ne_ob_ts nin0)
  have F_source_ob := F_source_ob.keep K3 (ninS ne_ob_ts nin0)
  have F_countedTo_ob := F_countedTo_ob.keep K3 (ninS ne_ob_ts nin0)
  have Z0 := Nat.le_trans Z0 K3.1
  have KK := KK.trans K3 (allS (Or.inr hgt) all0)
  show Run _ _ _ _ _ _ _ _ _ _ _ _ _ _ _ h3 2 10 17 #[.val (.ref ob), .val (.ref tx), .val .null, .val (.ref sr)] [(.ref ts), (.ref ob)]
  refine r_putfield (host := "") C (Or.inl (t71 hw)) Via.refl (Or.inr ⟨(t72 hw), rfl, rfl⟩) (t8 hw) (ty := (.object "java/util/Set")) (by decide) d7_17 (pc' := 20) rfl rfl rfl ge_ob F_entities_ob E_ob ?_
  intro h4 K4 E_ob F_entities_ob P4
  have F_source_ob := P4 (Or.inr (t78 hw)) (Or.inr (t72 hw)) (by decide) (t' := (.object "java/lang/String")) (by decide) F_source_ob
  have F_countedTo_ob := P4 (Or.inl (t85 hw)) (Or.inr (t72 hw)) (by decide) (t' := .int) (by decide) F_countedTo_ob
  have F_countedLine_ob := P4 (Or.inl (t25 hw)) (Or.inr (t72 hw)) (by decide) (t' := .int) (by decide) F_countedLine_ob
  have F_illegal_ob := P4 (Or.inr (t76 hw)) (Or.inr (t72 hw)) (by decide) (t' := (.object "com/example/gate2/gate2/BeansException")) (by decide) F_illegal_ob
  have F_text_ob := P4 (Or.inr (t74 hw)) (Or.inr (t72 hw)) (by decide) (t' := (.array .char)) (by decide) F_text_ob
  have Z0 := Nat.le_trans Z0 K4.1
  have KK := KK.trans K4 (fun x q => Or.inl q)
  refine r_aload_n C d7_20 (pc' := 21) rfl rfl rfl ?_
  refine r_aload_n C d7_21 (pc' := 22) rfl rfl rfl ?_
  refine r_putfield (host := "") C (Or.inl (t73 hw)) Via.refl (Or.inr ⟨(t74 hw), rfl, rfl⟩) (t8 hw) (ty := (.array .char)) (by decide) d7_22 (pc' := 25) rfl rfl rfl ge_ob F_text_ob E_ob ?_
  intro h5 K5 E_ob F_text_ob P5
  have F_entities_ob := P5 (Or.inr (t72 hw)) (Or.inr (t74 hw)) (by decide) (t' := (.object "java/util/Set")) (by decide) F_entities_ob
  have F_source_ob := P5 (Or.inr (t78 hw)) (Or.inr (t74 hw)) (by decide) (t' := (.object "java/lang/String")) (by decide) F_source_ob
  have F_countedTo_ob := P5 (Or.inl (t85 hw)) (Or.inr (t74 hw)) (by decide) (t' := .int) (by decide) F_countedTo_ob
  have F_countedLine_ob := P5 (Or.inl (t25 hw)) (Or.inr (t74 hw)) (by decide) (t' := .int) (by decide) F_countedLine_ob
  have F_illegal_ob := P5 (Or.inr (t76 hw)) (Or.inr (t74 hw)) (by decide) (t' := (.object "com/example/gate2/gate2/BeansException")) (by decide) F_illegal_ob
  have Z0 := Nat.le_trans Z0 K5.1
  have KK := KK.trans K5 (fun x q => Or.inl q)
  refine r_aload_n C d7_25 (pc' := 26) rfl rfl rfl ?_
  refine r_aload_n C d7_26 (pc' := 27) rfl rfl rfl ?_
  refine r_putfield (host := "") C (Or.inl (t75 hw)) Via.refl (Or.inr ⟨(t76 hw), rfl, rfl⟩) (t8 hw) (ty := (.object "com/example/gate2/gate2/BeansException")) (by decide) d7_27 (pc' := 30) rfl rfl rfl ge_ob F_illegal_ob E_ob ?_
  intro h6 K6 E_ob F_illegal_ob P6
  have F_entities_ob := P6 (Or.inr (t72 hw)) (Or.inr (t76 hw)) (by decide) (t' := (.object "java/util/Set")) (by decide) F_entities_ob
  have F_source_ob := P6 (Or.inr (t78 hw)) (Or.inr (t76 hw)) (by decide) (t' := (.object "java/lang/String")) (by decide) F_source_ob
  have F_countedTo_ob := P6 (Or.inl (t85 hw)) (Or.inr (t76 hw)) (by decide) (t' := .int) (by decide) F_countedTo_ob
  have F_countedLine_ob := P6 (Or.inl (t25 hw)) (Or.inr (t76 hw)) (by decide) (t' := .int) (by decide) F_countedLine_ob
  have F_text_ob := P6 (Or.inr (t74 hw)) (Or.inr (t76 hw)) (by decide) (t' := (.array .char)) (by decide) F_text_ob
  have Z0 := Nat.le_trans Z0 K6.1
  have KK := KK.trans K6 (fun x q => Or.inl q)
  refine r_aload_n C d7_30 (pc' := 31) rfl rfl rfl ?_
  refine r_aload_n C d7_31 (pc' := 32) rfl rfl rfl ?_
  refine r_putfield (host := "") C (Or.inl (t77 hw)) Via.refl (Or.inr ⟨(t78 hw), rfl, rfl⟩) (t8 hw) (ty := (.object "java/lang/String")) (by decide) d7_32 (pc' := 35) rfl rfl rfl ge_ob F_source_ob E_ob ?_
  intro h7 K7 E_ob F_source_ob P7
  have F_entities_ob := P7 (Or.inr (t72 hw)) (Or.inr (t78 hw)) (by decide) (t' := (.object "java/util/Set")) (by decide) F_entities_ob
  have F_countedTo_ob := P7 (Or.inl (t85 hw)) (Or.inr (t78 hw)) (by decide) (t' := .int) (by decide) F_countedTo_ob
  have F_countedLine_ob := P7 (Or.inl (t25 hw)) (Or.inr (t78 hw)) (by decide) (t' := .int) (by decide) F_countedLine_ob
  have F_illegal_ob := P7 (Or.inr (t76 hw)) (Or.inr (t78 hw)) (by decide) (t' := (.object "com/example/gate2/gate2/BeansException")) (by decide) F_illegal_ob
  have F_text_ob := P7 (Or.inr (t74 hw)) (Or.inr (t78 hw)) (by decide) (t' := (.array .char)) (by decide) F_text_ob
  have Z0 := Nat.le_trans Z0 K7.1
  have KK := KK.trans K7 (fun x q => Or.inl q)
  exact r_return0 C d7_35 ⟨rfl, KK, E_ob, F_countedLine_ob, F_text_ob, F_countedTo_ob⟩ (by decide) (by decide)
set_option maxRecDepth 65536 in
set_option maxHeartbeats 40000000 in
theorem rmK (l : Launch) (Z : State) (a0 : Array Value) (hw : ∀ d ∈ tables_1, d.before a0 Z = true) (nl : Int32) (i : Int32) (ch : Int64) (h0 : Heap) (n0 : Nat)  :
    Con l Z (⟨"com/example/gate2/gate2/xml/XmlCursorLineAtPinLaw", "pick", "(IIJ)C"⟩ : MethodName) method_3_code 4 (some .char) ({ frames := 0, cells := 0, slots := 0, locals := 0 } : Room) #[(.int nl), (.int i), (.long ch)] h0 n0 (fun v h => (∃ q : Int32, v = some (.int q)) ∧ h0 = h) := by
  refine Con.of_body (plainFor_of_name pn6) #[.val (.int nl), .val (.int i), .val (.long ch), .second] (fun m => by first | (simp [entryFrame, mkF, argsToLocals, Value.category, maxLocals]; done) | rfl) ?_
  intro p e s m below meth c C
  refine r_iload_n C d8_0 (pc' := 1) rfl rfl ?_
  refine r_iload_n C d8_1 (pc' := 2) rfl rfl ?_
  refine r_iushr C d8_2 (pc' := 3) rfl (z := (XT.ushr nl i)) rfl ?_
  refine r_iconst C d8_3 (pc' := 4) rfl (z := (1 : Int32)) rfl ?_
  refine r_iand C d8_4 (pc' := 5) rfl (z := ((XT.ushr nl i) &&& (1 : Int32))) rfl ?_
  refine r_ifeq C d8_5 (pcT := 11) (pcF := 8) (by decide) rfl ?_ ?_
  · intro c5
    refine r_lload_n C d8_11 (pc' := 12) rfl rfl ?_
    refine r_bipush C d8_12 (pc' := 14) rfl (z := (8 : Int32)) rfl ?_
    refine r_iload_n C d8_14 (pc' := 15) rfl rfl ?_
    refine r_imul C d8_15 (pc' := 16) rfl (z := ((8 : Int32) * i)) rfl ?_
    refine r_lushr C d8_16 (pc' := 17) rfl (z := (XT.ushrL ch ((8 : Int32) * i))) rfl ?_
    refine r_ldc2_w C (t5 hw) d8_17 (pc' := 20) rfl ?_
    refine r_land C d8_20 (pc' := 21) rfl (z := ((XT.ushrL ch ((8 : Int32) * i)) &&& (255 : Int64))) rfl ?_
    refine r_l2i C d8_21 (pc' := 22) rfl (z := ((((XT.ushrL ch ((8 : Int32) * i)) &&& (255 : Int64))).toInt32)) rfl ?_
    refine r_i2c C d8_22 (pc' := 23) rfl (z := ((((((XT.ushrL ch ((8 : Int32) * i)) &&& (255 : Int64))).toInt32)).toUInt32.toUInt16.toUInt32.toInt32)) rfl ?_
    exact r_ireturnN (t := .char) (by simp) C d8_23 ⟨⟨_, rfl⟩, rfl⟩ (by decide) (by decide)
  · intro c5
    refine r_bipush C d8_8 (pc' := 10) rfl (z := (10 : Int32)) rfl ?_
    exact r_ireturnN (t := .char) (by simp) C d8_10 ⟨⟨_, rfl⟩, rfl⟩ (by decide) (by decide)
set_option maxRecDepth 65536 in
set_option maxHeartbeats 40000000 in
theorem rmL (l : Launch) (Z : State) (a0 : Array Value) (hw : ∀ d ∈ tables_1, d.before a0 Z = true) (ob : Addr) (pp : Int32) (tx : Addr) (ct : Int32) (pn cn : Nat) (f : Nat → Int32) (h0 : Heap) (n0 : Nat) (Z0 : n0 ≤ h0.size) (ge_ob : n0 ≤ ob) (ne_tx_ob : tx ≠ ob) (hp : pp.toInt = (pn : Int)) (hp6 : pn ≤ 6) (hct : ct.toInt = (cn : Int)) (hc6 : cn ≤ 6) (E_ob : Exa Z h0 ob "com/example/gate2/gate2/xml/XmlCursor") (F_countedTo_ob : Fld Z h0 ob "com/example/gate2/gate2/xml/XmlCursor" "countedTo" "I" (.int ct)) (F_countedLine_ob : Fld Z h0 ob "com/example/gate2/gate2/xml/XmlCursor" "countedLine" "I" (.int (own_lines f cn))) (F_text_ob : Fld Z h0 ob "com/example/gate2/gate2/xml/XmlCursor" "text" "[C" (.ref tx)) (A_tx : IA Z h0 tx .char 6 (fun i => .int (f i))) :
    Con l Z (⟨"com/example/gate2/gate2/xml/XmlCursor", "lineAt", "(I)I"⟩ : MethodName) prog_57_method_36_code 2 (some .int) ({ frames := 0, cells := 0, slots := 0, locals := 0 } : Room) #[(.ref ob), (.int pp)] h0 n0 (fun v h => v = some (.int (own_lines f pn)) ∧ Keep h0 h [ob] ∧ ∃ c : Int32, c.toInt = (pn : Int) ∧ Exa Z h ob "com/example/gate2/gate2/xml/XmlCursor" ∧ Fld Z h ob "com/example/gate2/gate2/xml/XmlCursor" "countedTo" "I" (.int c) ∧ Fld Z h ob "com/example/gate2/gate2/xml/XmlCursor" "countedLine" "I" (.int (own_lines f pn)) ∧ Fld Z h ob "com/example/gate2/gate2/xml/XmlCursor" "text" "[C" (.ref tx) ∧ IA Z h tx .char 6 (fun i => .int (f i))) := by
  refine Con.of_body (plainFor_of_name pn5) #[.val (.ref ob), .val (.int pp)] (fun m => by first | (simp [entryFrame, mkF, argsToLocals, Value.category, maxLocals]; done) | rfl) ?_
  intro p e s m below meth c C
  refine loop (α := Heap × Int32 × Nat) (fun jq => pn - jq.2.2) (fun jq => jq.2.2 ≤ pn ∧ jq.2.1.toInt = (jq.2.2 : Int) ∧ n0 ≤ jq.1.size ∧ Keep h0 jq.1 [ob] ∧ Exa Z jq.1 ob "com/example/gate2/gate2/xml/XmlCursor" ∧ Fld Z jq.1 ob "com/example/gate2/gate2/xml/XmlCursor" "countedTo" "I" (.int jq.2.1) ∧ Fld Z jq.1 ob "com/example/gate2/gate2/xml/XmlCursor" "countedLine" "I" (.int (own_lines f jq.2.2)) ∧ Fld Z jq.1 ob "com/example/gate2/gate2/xml/XmlCursor" "text" "[C" (.ref tx) ∧ IA Z jq.1 tx .char 6 (fun i => .int (f i))) (fun jq => jq.1) 0 0 18 (fun jq => #[.val (.ref ob), .val (.int pp)]) (fun jq => []) ?_ ?_
  rotate_left
  · intro LP
    refine r_iload_n C d9_0 (pc' := 1) rfl rfl ?_
    refine r_aload_n C d9_1 (pc' := 2) rfl rfl rfl ?_
    refine r_getfield (host := "") C (Or.inl (t84 hw)) Via.refl d9_2 (pc' := 5) rfl F_countedTo_ob ?_
    refine r_icmpge C d9_5 (pcT := 18) (pcF := 8) (by decide) rfl ?_ ?_
    · intro c5
      exact LP (h0, ct, cn) ⟨by dsimp only; omega, hct, Z0, Keep.refl _ _, E_ob, F_countedTo_ob, F_countedLine_ob, F_text_ob, A_tx⟩
    · intro c5
      refine r_aload_n C d9_8 (pc' := 9) rfl rfl rfl ?_
      refine r_iconst C d9_9 (pc' := 10) rfl (z := (0 : Int32)) rfl ?_
      refine r_putfield (host := "") C (Or.inl (t84 hw)) Via.refl (Or.inl (t85 hw)) (t8 hw) (ty := .int) (by decide) d9_10 (pc' := 13) rfl rfl rfl ge_ob F_countedTo_ob E_ob ?_
      intro h1 K1 E_ob F_countedTo_ob P1
      have F_countedLine_ob := P1 (Or.inl (t25 hw)) (Or.inl (t85 hw)) (by decide) (t' := .int) (by decide) F_countedLine_ob
      have F_text_ob := P1 (Or.inr (t74 hw)) (Or.inl (t85 hw)) (by decide) (t' := (.array .char)) (by decide) F_text_ob
      have A_tx := A_tx.keep K1 (ninS ne_tx_ob nin0)
      have Z0 := Nat.le_trans Z0 K1.1
      refine r_aload_n C d9_13 (pc' := 14) rfl rfl rfl ?_
      refine r_iconst C d9_14 (pc' := 15) rfl (z := (1 : Int32)) rfl ?_
      refine r_putfield (host := "") C (Or.inl (t24 hw)) Via.refl (Or.inl (t25 hw)) (t8 hw) (ty := .int) (by decide) d9_15 (pc' := 18) rfl rfl rfl ge_ob F_countedLine_ob E_ob ?_
      intro h2 K2 E_ob F_countedLine_ob P2
      have F_countedTo_ob := P2 (Or.inl (t85 hw)) (Or.inl (t25 hw)) (by decide) (t' := .int) (by decide) F_countedTo_ob
      have F_text_ob := P2 (Or.inr (t74 hw)) (Or.inl (t25 hw)) (by decide) (t' := (.array .char)) (by decide) F_text_ob
      have A_tx := A_tx.keep K2 (ninS ne_tx_ob nin0)
      have Z0 := Nat.le_trans Z0 K2.1
      exact LP (h2, 0, 0) ⟨Nat.zero_le _, rfl, Z0, K1.trans K2 (fun x q => Or.inl q), E_ob, F_countedTo_ob, F_countedLine_ob, F_text_ob, A_tx⟩
  rintro ⟨h3, c, i⟩ ⟨hi, hc, Z0, KK, E_ob, F_countedTo_ob, F_countedLine_ob, F_text_ob, A_tx⟩ IH
  dsimp only at hi hc Z0 KK E_ob F_countedTo_ob F_countedLine_ob F_text_ob A_tx IH ⊢
  refine r_aload_n C d9_18 (pc' := 19) rfl rfl rfl ?_
  refine r_getfield (host := "") C (Or.inl (t84 hw)) Via.refl d9_19 (pc' := 22) rfl F_countedTo_ob ?_
  refine r_iload_n C d9_22 (pc' := 23) rfl rfl ?_
  refine r_icmpge C d9_23 (pcT := 63) (pcF := 26) (by decide) rfl ?_ ?_
  · intro c23
    rw [hp, hc] at c23
    obtain rfl : i = pn := by omega
    refine r_aload_n C d9_63 (pc' := 64) rfl rfl rfl ?_
    refine r_getfield (host := "") C (Or.inl (t24 hw)) Via.refl d9_64 (pc' := 67) rfl F_countedLine_ob ?_
    exact r_ireturn C d9_67 ⟨rfl, KK, c, hc, E_ob, F_countedTo_ob, F_countedLine_ob, F_text_ob, A_tx⟩ (by decide) (by decide)
  · intro c23
    rw [hp, hc] at c23
    have hc1 := own_add1 hc (by omega)
    refine r_aload_n C d9_26 (pc' := 27) rfl rfl rfl ?_
    refine r_getfield (host := "") C (Or.inl (t73 hw)) Via.refl d9_27 (pc' := 30) rfl F_text_ob ?_
    refine r_aload_n C d9_30 (pc' := 31) rfl rfl rfl ?_
    refine r_getfield (host := "") C (Or.inl (t84 hw)) Via.refl d9_31 (pc' := 34) rfl F_countedTo_ob ?_
    refine r_caload C d9_34 (pc' := 35) rfl A_tx (jn := i) hc (by omega) (x := (f i)) rfl ?_
    refine r_bipush C d9_35 (pc' := 37) rfl (z := (10 : Int32)) rfl ?_
    refine r_icmpne C d9_37 (pcT := 50) (pcF := 40) (by decide) rfl ?_ ?_
    · intro c37
      have hl : own_lines f (i + 1) = own_lines f i := if_neg c37
      refine r_aload_n C d9_50 (pc' := 51) rfl rfl rfl ?_
      refine r_dup C d9_51 (pc' := 52) rfl rfl ?_
      refine r_getfield (host := "") C (Or.inl (t84 hw)) Via.refl d9_52 (pc' := 55) rfl F_countedTo_ob ?_
      refine r_iconst C d9_55 (pc' := 56) rfl (z := (1 : Int32)) rfl ?_
      refine r_iadd C d9_56 (pc' := 57) rfl (z := (c + (1 : Int32))) rfl ?_
      refine r_putfield (host := "") C (Or.inl (t84 hw)) Via.refl (Or.inl (t85 hw)) (t8 hw) (ty := .int) (by decide) d9_57 (pc' := 60) rfl rfl rfl ge_ob F_countedTo_ob E_ob ?_
      intro h4 K4 E_ob F_countedTo_ob P4
      have F_countedLine_ob := P4 (Or.inl (t25 hw)) (Or.inl (t85 hw)) (by decide) (t' := .int) (by decide) F_countedLine_ob
      have F_text_ob := P4 (Or.inr (t74 hw)) (Or.inl (t85 hw)) (by decide) (t' := (.array .char)) (by decide) F_text_ob
      have A_tx := A_tx.keep K4 (ninS ne_tx_ob nin0)
      have Z0 := Nat.le_trans Z0 K4.1
      refine r_goto C d9_60 (pc' := 18) (by decide) ?_
      exact IH (h4, c + 1, i + 1) ⟨by dsimp only; omega, hc1, Z0, KK.trans K4 (fun x q => Or.inl q), E_ob, F_countedTo_ob, by rw [hl]; exact F_countedLine_ob, F_text_ob, A_tx⟩ (by dsimp only; omega)
    · intro c37
      have hl : own_lines f (i + 1) = own_lines f i + 1 := if_pos c37
      refine r_aload_n C d9_40 (pc' := 41) rfl rfl rfl ?_
      refine r_dup C d9_41 (pc' := 42) rfl rfl ?_
      refine r_getfield (host := "") C (Or.inl (t24 hw)) Via.refl d9_42 (pc' := 45) rfl F_countedLine_ob ?_
      refine r_iconst C d9_45 (pc' := 46) rfl (z := (1 : Int32)) rfl ?_
      refine r_iadd C d9_46 (pc' := 47) rfl (z := ((own_lines f i) + (1 : Int32))) rfl ?_
      refine r_putfield (host := "") C (Or.inl (t24 hw)) Via.refl (Or.inl (t25 hw)) (t8 hw) (ty := .int) (by decide) d9_47 (pc' := 50) rfl rfl rfl ge_ob F_countedLine_ob E_ob ?_
      intro h5 K5 E_ob F_countedLine_ob P5
      have F_countedTo_ob := P5 (Or.inl (t85 hw)) (Or.inl (t25 hw)) (by decide) (t' := .int) (by decide) F_countedTo_ob
      have F_text_ob := P5 (Or.inr (t74 hw)) (Or.inl (t25 hw)) (by decide) (t' := (.array .char)) (by decide) F_text_ob
      have A_tx := A_tx.keep K5 (ninS ne_tx_ob nin0)
      have Z0 := Nat.le_trans Z0 K5.1
      have KK := KK.trans K5 (fun x q => Or.inl q)
      refine r_aload_n C d9_50 (pc' := 51) rfl rfl rfl ?_
      refine r_dup C d9_51 (pc' := 52) rfl rfl ?_
      refine r_getfield (host := "") C (Or.inl (t84 hw)) Via.refl d9_52 (pc' := 55) rfl F_countedTo_ob ?_
      refine r_iconst C d9_55 (pc' := 56) rfl (z := (1 : Int32)) rfl ?_
      refine r_iadd C d9_56 (pc' := 57) rfl (z := (c + (1 : Int32))) rfl ?_
      refine r_putfield (host := "") C (Or.inl (t84 hw)) Via.refl (Or.inl (t85 hw)) (t8 hw) (ty := .int) (by decide) d9_57 (pc' := 60) rfl rfl rfl ge_ob F_countedTo_ob E_ob ?_
      intro h6 K6 E_ob F_countedTo_ob P6
      have F_countedLine_ob := P6 (Or.inl (t25 hw)) (Or.inl (t85 hw)) (by decide) (t' := .int) (by decide) F_countedLine_ob
      have F_text_ob := P6 (Or.inr (t74 hw)) (Or.inl (t85 hw)) (by decide) (t' := (.array .char)) (by decide) F_text_ob
      have A_tx := A_tx.keep K6 (ninS ne_tx_ob nin0)
      have Z0 := Nat.le_trans Z0 K6.1
      refine r_goto C d9_60 (pc' := 18) (by decide) ?_
      exact IH (h6, c + 1, i + 1) ⟨by dsimp only; omega, hc1, Z0, KK.trans K6 (fun x q => Or.inl q), E_ob, F_countedTo_ob, by rw [hl]; exact F_countedLine_ob, F_text_ob, A_tx⟩ (by dsimp only; omega)
set_option maxRecDepth 65536 in
set_option maxHeartbeats 40000000 in
theorem rmN (l : Launch) (Z : State) (a0 : Array Value) (hw : ∀ d ∈ tables_1, d.before a0 Z = true) (tx : Addr) (pp : Int32) (pn : Nat) (f : Nat → Int32) (h0 : Heap) (n0 : Nat) (hp : pp.toInt = (pn : Int)) (hp6 : pn ≤ 6) (A_tx : IA Z h0 tx .char 6 (fun i => .int (f i))) :
    Con l Z (⟨"com/example/gate2/gate2/xml/XmlCursorLineAtPinLaw", "lines", "([CI)I"⟩ : MethodName) method_4_code 3 (some .int) ({ frames := 0, cells := 0, slots := 0, locals := 0 } : Room) #[(.ref tx), (.int pp)] h0 n0 (fun v h => v = some (.int (own_lines f pn)) ∧ h0 = h) := by
  refine Con.of_body (plainFor_of_name pn6) #[.val (.ref tx), .val (.int pp), .unset] (fun m => by first | (simp [entryFrame, mkF, argsToLocals, Value.category, maxLocals]; done) | rfl) ?_
  intro p e s m below meth c C
  refine r_iconst C d10_0 (pc' := 1) rfl (z := (1 : Int32)) rfl ?_
  refine r_istore_n C d10_1 (pc' := 2) rfl (ls' := #[.val (.ref tx), .val (.int pp), .val (.int (1 : Int32))]) rfl ?_
  have hq : (1 : Int32) = own_lines f (min pn 0) := by rw [Nat.min_zero]; rfl
  refine join (α := Int32) (fun jq => jq = own_lines f (min pn 1)) (fun jq => h0) 0 0 17 (fun jq => #[.val (.ref tx), .val (.int pp), .val (.int jq)]) (fun jq => []) ?_ ?_
  rotate_left
  · intro J17
    refine r_iload_n C d10_2 (pc' := 3) rfl rfl ?_
    refine r_ifle C d10_3 (pcT := 17) (pcF := 6) (by decide) rfl ?_ ?_
    · intro cc
      replace cc : pp.toInt ≤ 0 := cc
      exact J17 _ (hq.trans (congrArg _ (own_min (by omega)).symm))
    · intro cc
      replace cc : 0 < pp.toInt := cc
      have m0 : min pn 0 = 0 := by omega
      have m1 : min pn 1 = 0 + 1 := by omega
      rw [m0] at hq
      refine r_aload_n C d10_6 (pc' := 7) rfl rfl rfl ?_
      refine r_iconst C d10_7 (pc' := 8) rfl (z := (0 : Int32)) rfl ?_
      refine r_caload C d10_8 (pc' := 9) rfl A_tx (jn := 0) (by decide) (by decide) (x := (f 0)) rfl ?_
      refine r_bipush C d10_9 (pc' := 11) rfl (z := (10 : Int32)) rfl ?_
      refine r_icmpne C d10_11 (pcT := 17) (pcF := 14) (by decide) rfl ?_ ?_
      · intro cd
        exact J17 _ (by rw [m1]; exact hq.trans (if_neg cd).symm)
      · intro cd
        refine r_iinc C d10_14 (pc' := 17) rfl rfl (z := ((1 : Int32) + (1 : Int32))) rfl (ls' := #[.val (.ref tx), .val (.int pp), .val (.int ((1 : Int32) + (1 : Int32)))]) rfl ?_
        exact J17 _ (by rw [m1, hq]; exact (if_pos cd).symm)
  intro n0 hq
  show Run _ _ _ _ _ _ _ _ _ _ _ _ _ _ _ h0 0 0 17 #[.val (.ref tx), .val (.int pp), .val (.int n0)] []
  refine join (α := Int32) (fun jq => jq = own_lines f (min pn 2)) (fun jq => h0) 0 0 33 (fun jq => #[.val (.ref tx), .val (.int pp), .val (.int jq)]) (fun jq => []) ?_ ?_
  rotate_left
  · intro J33
    refine r_iload_n C d10_17 (pc' := 18) rfl rfl ?_
    refine r_iconst C d10_18 (pc' := 19) rfl (z := (1 : Int32)) rfl ?_
    refine r_icmple C d10_19 (pcT := 33) (pcF := 22) (by decide) rfl ?_ ?_
    · intro cc
      replace cc : pp.toInt ≤ 1 := cc
      exact J33 _ (hq.trans (congrArg _ (own_min (by omega)).symm))
    · intro cc
      replace cc : 1 < pp.toInt := cc
      have m0 : min pn 1 = 1 := by omega
      have m1 : min pn 2 = 1 + 1 := by omega
      rw [m0] at hq
      refine r_aload_n C d10_22 (pc' := 23) rfl rfl rfl ?_
      refine r_iconst C d10_23 (pc' := 24) rfl (z := (1 : Int32)) rfl ?_
      refine r_caload C d10_24 (pc' := 25) rfl A_tx (jn := 1) (by decide) (by decide) (x := (f 1)) rfl ?_
      refine r_bipush C d10_25 (pc' := 27) rfl (z := (10 : Int32)) rfl ?_
      refine r_icmpne C d10_27 (pcT := 33) (pcF := 30) (by decide) rfl ?_ ?_
      · intro cd
        exact J33 _ (by rw [m1]; exact hq.trans (if_neg cd).symm)
      · intro cd
        refine r_iinc C d10_30 (pc' := 33) rfl rfl (z := (n0 + (1 : Int32))) rfl (ls' := #[.val (.ref tx), .val (.int pp), .val (.int (n0 + (1 : Int32)))]) rfl ?_
        exact J33 _ (by rw [m1, hq]; exact (if_pos cd).symm)
  intro n1 hq
  show Run _ _ _ _ _ _ _ _ _ _ _ _ _ _ _ h0 0 0 33 #[.val (.ref tx), .val (.int pp), .val (.int n1)] []
  refine join (α := Int32) (fun jq => jq = own_lines f (min pn 3)) (fun jq => h0) 0 0 49 (fun jq => #[.val (.ref tx), .val (.int pp), .val (.int jq)]) (fun jq => []) ?_ ?_
  rotate_left
  · intro J49
    refine r_iload_n C d10_33 (pc' := 34) rfl rfl ?_
    refine r_iconst C d10_34 (pc' := 35) rfl (z := (2 : Int32)) rfl ?_
    refine r_icmple C d10_35 (pcT := 49) (pcF := 38) (by decide) rfl ?_ ?_
    · intro cc
      replace cc : pp.toInt ≤ 2 := cc
      exact J49 _ (hq.trans (congrArg _ (own_min (by omega)).symm))
    · intro cc
      replace cc : 2 < pp.toInt := cc
      have m0 : min pn 2 = 2 := by omega
      have m1 : min pn 3 = 2 + 1 := by omega
      rw [m0] at hq
      refine r_aload_n C d10_38 (pc' := 39) rfl rfl rfl ?_
      refine r_iconst C d10_39 (pc' := 40) rfl (z := (2 : Int32)) rfl ?_
      refine r_caload C d10_40 (pc' := 41) rfl A_tx (jn := 2) (by decide) (by decide) (x := (f 2)) rfl ?_
      refine r_bipush C d10_41 (pc' := 43) rfl (z := (10 : Int32)) rfl ?_
      refine r_icmpne C d10_43 (pcT := 49) (pcF := 46) (by decide) rfl ?_ ?_
      · intro cd
        exact J49 _ (by rw [m1]; exact hq.trans (if_neg cd).symm)
      · intro cd
        refine r_iinc C d10_46 (pc' := 49) rfl rfl (z := (n1 + (1 : Int32))) rfl (ls' := #[.val (.ref tx), .val (.int pp), .val (.int (n1 + (1 : Int32)))]) rfl ?_
        exact J49 _ (by rw [m1, hq]; exact (if_pos cd).symm)
  intro n2 hq
  show Run _ _ _ _ _ _ _ _ _ _ _ _ _ _ _ h0 0 0 49 #[.val (.ref tx), .val (.int pp), .val (.int n2)] []
  refine join (α := Int32) (fun jq => jq = own_lines f (min pn 4)) (fun jq => h0) 0 0 65 (fun jq => #[.val (.ref tx), .val (.int pp), .val (.int jq)]) (fun jq => []) ?_ ?_
  rotate_left
  · intro J65
    refine r_iload_n C d10_49 (pc' := 50) rfl rfl ?_
    refine r_iconst C d10_50 (pc' := 51) rfl (z := (3 : Int32)) rfl ?_
    refine r_icmple C d10_51 (pcT := 65) (pcF := 54) (by decide) rfl ?_ ?_
    · intro cc
      replace cc : pp.toInt ≤ 3 := cc
      exact J65 _ (hq.trans (congrArg _ (own_min (by omega)).symm))
    · intro cc
      replace cc : 3 < pp.toInt := cc
      have m0 : min pn 3 = 3 := by omega
      have m1 : min pn 4 = 3 + 1 := by omega
      rw [m0] at hq
      refine r_aload_n C d10_54 (pc' := 55) rfl rfl rfl ?_
      refine r_iconst C d10_55 (pc' := 56) rfl (z := (3 : Int32)) rfl ?_
      refine r_caload C d10_56 (pc' := 57) rfl A_tx (jn := 3) (by decide) (by decide) (x := (f 3)) rfl ?_
      refine r_bipush C d10_57 (pc' := 59) rfl (z := (10 : Int32)) rfl ?_
      refine r_icmpne C d10_59 (pcT := 65) (pcF := 62) (by decide) rfl ?_ ?_
      · intro cd
        exact J65 _ (by rw [m1]; exact hq.trans (if_neg cd).symm)
      · intro cd
        refine r_iinc C d10_62 (pc' := 65) rfl rfl (z := (n2 + (1 : Int32))) rfl (ls' := #[.val (.ref tx), .val (.int pp), .val (.int (n2 + (1 : Int32)))]) rfl ?_
        exact J65 _ (by rw [m1, hq]; exact (if_pos cd).symm)
  intro n3 hq
  show Run _ _ _ _ _ _ _ _ _ _ _ _ _ _ _ h0 0 0 65 #[.val (.ref tx), .val (.int pp), .val (.int n3)] []
  refine join (α := Int32) (fun jq => jq = own_lines f (min pn 5)) (fun jq => h0) 0 0 81 (fun jq => #[.val (.ref tx), .val (.int pp), .val (.int jq)]) (fun jq => []) ?_ ?_
  rotate_left
  · intro J81
    refine r_iload_n C d10_65 (pc' := 66) rfl rfl ?_
    refine r_iconst C d10_66 (pc' := 67) rfl (z := (4 : Int32)) rfl ?_
    refine r_icmple C d10_67 (pcT := 81) (pcF := 70) (by decide) rfl ?_ ?_
    · intro cc
      replace cc : pp.toInt ≤ 4 := cc
      exact J81 _ (hq.trans (congrArg _ (own_min (by omega)).symm))
    · intro cc
      replace cc : 4 < pp.toInt := cc
      have m0 : min pn 4 = 4 := by omega
      have m1 : min pn 5 = 4 + 1 := by omega
      rw [m0] at hq
      refine r_aload_n C d10_70 (pc' := 71) rfl rfl rfl ?_
      refine r_iconst C d10_71 (pc' := 72) rfl (z := (4 : Int32)) rfl ?_
      refine r_caload C d10_72 (pc' := 73) rfl A_tx (jn := 4) (by decide) (by decide) (x := (f 4)) rfl ?_
      refine r_bipush C d10_73 (pc' := 75) rfl (z := (10 : Int32)) rfl ?_
      refine r_icmpne C d10_75 (pcT := 81) (pcF := 78) (by decide) rfl ?_ ?_
      · intro cd
        exact J81 _ (by rw [m1]; exact hq.trans (if_neg cd).symm)
      · intro cd
        refine r_iinc C d10_78 (pc' := 81) rfl rfl (z := (n3 + (1 : Int32))) rfl (ls' := #[.val (.ref tx), .val (.int pp), .val (.int (n3 + (1 : Int32)))]) rfl ?_
        exact J81 _ (by rw [m1, hq]; exact (if_pos cd).symm)
  intro n4 hq
  show Run _ _ _ _ _ _ _ _ _ _ _ _ _ _ _ h0 0 0 81 #[.val (.ref tx), .val (.int pp), .val (.int n4)] []
  refine join (α := Int32) (fun jq => jq = own_lines f (min pn 6)) (fun jq => h0) 0 0 97 (fun jq => #[.val (.ref tx), .val (.int pp), .val (.int jq)]) (fun jq => []) ?_ ?_
  rotate_left
  · intro J97
    refine r_iload_n C d10_81 (pc' := 82) rfl rfl ?_
    refine r_iconst C d10_82 (pc' := 83) rfl (z := (5 : Int32)) rfl ?_
    refine r_icmple C d10_83 (pcT := 97) (pcF := 86) (by decide) rfl ?_ ?_
    · intro cc
      replace cc : pp.toInt ≤ 5 := cc
      exact J97 _ (hq.trans (congrArg _ (own_min (by omega)).symm))
    · intro cc
      replace cc : 5 < pp.toInt := cc
      have m0 : min pn 5 = 5 := by omega
      have m1 : min pn 6 = 5 + 1 := by omega
      rw [m0] at hq
      refine r_aload_n C d10_86 (pc' := 87) rfl rfl rfl ?_
      refine r_iconst C d10_87 (pc' := 88) rfl (z := (5 : Int32)) rfl ?_
      refine r_caload C d10_88 (pc' := 89) rfl A_tx (jn := 5) (by decide) (by decide) (x := (f 5)) rfl ?_
      refine r_bipush C d10_89 (pc' := 91) rfl (z := (10 : Int32)) rfl ?_
      refine r_icmpne C d10_91 (pcT := 97) (pcF := 94) (by decide) rfl ?_ ?_
      · intro cd
        exact J97 _ (by rw [m1]; exact hq.trans (if_neg cd).symm)
      · intro cd
        refine r_iinc C d10_94 (pc' := 97) rfl rfl (z := (n4 + (1 : Int32))) rfl (ls' := #[.val (.ref tx), .val (.int pp), .val (.int (n4 + (1 : Int32)))]) rfl ?_
        exact J97 _ (by rw [m1, hq]; exact (if_pos cd).symm)
  intro n5 hq
  show Run _ _ _ _ _ _ _ _ _ _ _ _ _ _ _ h0 0 0 97 #[.val (.ref tx), .val (.int pp), .val (.int n5)] []
  have m1 : min pn 6 = pn := by omega
  rw [m1] at hq
  refine r_iload_n C d10_97 (pc' := 98) rfl rfl ?_
  exact r_ireturn C d10_98 ⟨by rw [hq], rfl⟩ (by decide) (by decide)
set_option maxRecDepth 65536 in
set_option maxHeartbeats 40000000 in
theorem rm0 (l : Launch) (Z : State) (a0 : Array Value) (hw : ∀ d ∈ tables_1, d.before a0 Z = true) (nl : Int32) (ch : Int64) (p1 : Int32) (p2 : Int32) (p3 : Int32) (p4 : Int32) (h0 : Heap) (n0 : Nat) (Z0 : n0 ≤ h0.size) :
    ConW l Z x code maxLocals ret room_1 #[(.int nl), (.long ch), (.int p1), (.int p2), (.int p3), (.int p4)] h0 n0 (fun v h => v = some (.int 1)) := by
  refine ConW.of_body (plainFor_of_name pn6) #[.val (.int nl), .val (.long ch), .second, .val (.int p1), .val (.int p2), .val (.int p3), .val (.int p4), .unset, .unset, .unset, .unset, .unset, .unset, .unset, .unset, .unset, .unset] (fun m => by first | (simp [entryFrame, mkF, argsToLocals, Value.category, maxLocals]; done) | rfl) ?_
  intro p e s m below meth c C
  obtain ⟨an, ha, ha6⟩ := own_p p1
  obtain ⟨va, ea⟩ : ∃ q : Int32, (p1 &&& 2147483647) % 7 = q := ⟨_, rfl⟩
  rw [ea] at ha
  obtain ⟨bn, hb, hb6⟩ := own_p p2
  obtain ⟨vb, eb⟩ : ∃ q : Int32, (p2 &&& 2147483647) % 7 = q := ⟨_, rfl⟩
  rw [eb] at hb
  obtain ⟨cn, hc, hc6⟩ := own_p p3
  obtain ⟨vc, ec⟩ : ∃ q : Int32, (p3 &&& 2147483647) % 7 = q := ⟨_, rfl⟩
  rw [ec] at hc
  obtain ⟨dn, hd, hd6⟩ := own_p p4
  obtain ⟨vd, ed⟩ : ∃ q : Int32, (p4 &&& 2147483647) % 7 = q := ⟨_, rfl⟩
  rw [ed] at hd
  refine r_bipush C at_0 (pc' := 2) rfl (z := (6 : Int32)) rfl ?_
  refine r_newarray (ty := .char) (dv := (.int (0 : Int32))) rfl (n := 6) (cap := 6) C (t0 hw) rfl at_2 (pc' := 4) rfl (by decide) (by decide) (by decide) (by decide) (by decide) ?_
  intro tx h1 ha_tx K1 A_tx
  have ge_tx : n0 ≤ tx := Nat.le_trans Z0 (Nat.le_of_eq (Eq.symm ha_tx))
  have Z0 := Nat.le_trans Z0 K1.1
  have A_tx : IA Z h1 tx .char 6 (fun i => .int ((fun _ => (0 : Int32)) i)) := A_tx
  refine r_astore C at_4 (pc' := 6) rfl rfl (ls' := #[.val (.int nl), .val (.long ch), .second, .val (.int p1), .val (.int p2), .val (.int p3), .val (.int p4), .val (.ref tx), .unset, .unset, .unset, .unset, .unset, .unset, .unset, .unset, .unset]) rfl ?_
  refine r_aload C at_6 (pc' := 8) rfl rfl rfl ?_
  refine r_iconst C at_8 (pc' := 9) rfl (z := (0 : Int32)) rfl ?_
  refine r_iload_n C at_9 (pc' := 10) rfl rfl ?_
  refine r_iconst C at_10 (pc' := 11) rfl (z := (0 : Int32)) rfl ?_
  refine r_lload_n C at_11 (pc' := 12) rfl rfl ?_
  refine r_callS (y := (⟨"com/example/gate2/gate2/xml/XmlCursorLineAtPinLaw", "pick", "(IIJ)C"⟩ : MethodName)) (as := [(.int nl), (.int (0 : Int32)), (.long ch)]) (st := [(.int (0 : Int32)), (.ref tx)]) C (t1 hw) (t2 hw) (t3 hw) (t4 hw) (by decide) pd2 rfl rfl at_12 (pc' := 15) rfl rfl (W := 2) (Nat.le_of_eq rfl) (rmK l Z a0 hw nl (0 : Int32) ch h1 n0) (by decide) (by decide) (by decide) (by decide) ?_
  rintro _ _ ⟨⟨q0, rfl⟩, rfl⟩
  show Run _ _ _ _ _ _ _ _ _ _ _ _ _ _ _ h1 1 6 15 #[.val (.int nl), .val (.long ch), .second, .val (.int p1), .val (.int p2), .val (.int p3), .val (.int p4), .val (.ref tx), .unset, .unset, .unset, .unset, .unset, .unset, .unset, .unset, .unset] [(.int q0), (.int (0 : Int32)), (.ref tx)]
  refine r_castore C at_15 (pc' := 16) rfl A_tx (jn := 0) (by decide) (by decide) ge_tx ?_
  intro h2 K2 A_tx
  have Z0 := Nat.le_trans Z0 K2.1
  have A_tx : IA Z h2 tx .char 6 (fun i => .int ((fun i => if i = 0 then (nar .char q0) else (fun _ => (0 : Int32)) i) i)) := A_tx
  obtain ⟨f0, A_tx⟩ : ∃ g : Nat → Int32, IA Z h2 tx .char 6 (fun i => .int (g i)) := ⟨_, A_tx⟩
  refine r_aload C at_16 (pc' := 18) rfl rfl rfl ?_
  refine r_iconst C at_18 (pc' := 19) rfl (z := (1 : Int32)) rfl ?_
  refine r_iload_n C at_19 (pc' := 20) rfl rfl ?_
  refine r_iconst C at_20 (pc' := 21) rfl (z := (1 : Int32)) rfl ?_
  refine r_lload_n C at_21 (pc' := 22) rfl rfl ?_
  refine r_callS (y := (⟨"com/example/gate2/gate2/xml/XmlCursorLineAtPinLaw", "pick", "(IIJ)C"⟩ : MethodName)) (as := [(.int nl), (.int (1 : Int32)), (.long ch)]) (st := [(.int (1 : Int32)), (.ref tx)]) C (t1 hw) (t2 hw) (t3 hw) (t4 hw) (by decide) pd2 rfl rfl at_22 (pc' := 25) rfl rfl (W := 2) (Nat.le_of_eq rfl) (rmK l Z a0 hw nl (1 : Int32) ch h2 n0) (by decide) (by decide) (by decide) (by decide) ?_
  rintro _ _ ⟨⟨q1, rfl⟩, rfl⟩
  show Run _ _ _ _ _ _ _ _ _ _ _ _ _ _ _ h2 1 6 25 #[.val (.int nl), .val (.long ch), .second, .val (.int p1), .val (.int p2), .val (.int p3), .val (.int p4), .val (.ref tx), .unset, .unset, .unset, .unset, .unset, .unset, .unset, .unset, .unset] [(.int q1), (.int (1 : Int32)), (.ref tx)]
  refine r_castore C at_25 (pc' := 26) rfl A_tx (jn := 1) (by decide) (by decide) ge_tx ?_
  intro h3 K3 A_tx
  have Z0 := Nat.le_trans Z0 K3.1
  have A_tx : IA Z h3 tx .char 6 (fun i => .int ((fun i => if i = 1 then (nar .char q1) else f0 i) i)) := A_tx
  obtain ⟨f1, A_tx⟩ : ∃ g : Nat → Int32, IA Z h3 tx .char 6 (fun i => .int (g i)) := ⟨_, A_tx⟩
  refine r_aload C at_26 (pc' := 28) rfl rfl rfl ?_
  refine r_iconst C at_28 (pc' := 29) rfl (z := (2 : Int32)) rfl ?_
  refine r_iload_n C at_29 (pc' := 30) rfl rfl ?_
  refine r_iconst C at_30 (pc' := 31) rfl (z := (2 : Int32)) rfl ?_
  refine r_lload_n C at_31 (pc' := 32) rfl rfl ?_
  refine r_callS (y := (⟨"com/example/gate2/gate2/xml/XmlCursorLineAtPinLaw", "pick", "(IIJ)C"⟩ : MethodName)) (as := [(.int nl), (.int (2 : Int32)), (.long ch)]) (st := [(.int (2 : Int32)), (.ref tx)]) C (t1 hw) (t2 hw) (t3 hw) (t4 hw) (by decide) pd2 rfl rfl at_32 (pc' := 35) rfl rfl (W := 2) (Nat.le_of_eq rfl) (rmK l Z a0 hw nl (2 : Int32) ch h3 n0) (by decide) (by decide) (by decide) (by decide) ?_
  rintro _ _ ⟨⟨q2, rfl⟩, rfl⟩
  show Run _ _ _ _ _ _ _ _ _ _ _ _ _ _ _ h3 1 6 35 #[.val (.int nl), .val (.long ch), .second, .val (.int p1), .val (.int p2), .val (.int p3), .val (.int p4), .val (.ref tx), .unset, .unset, .unset, .unset, .unset, .unset, .unset, .unset, .unset] [(.int q2), (.int (2 : Int32)), (.ref tx)]
  refine r_castore C at_35 (pc' := 36) rfl A_tx (jn := 2) (by decide) (by decide) ge_tx ?_
  intro h4 K4 A_tx
  have Z0 := Nat.le_trans Z0 K4.1
  have A_tx : IA Z h4 tx .char 6 (fun i => .int ((fun i => if i = 2 then (nar .char q2) else f1 i) i)) := A_tx
  obtain ⟨f2, A_tx⟩ : ∃ g : Nat → Int32, IA Z h4 tx .char 6 (fun i => .int (g i)) := ⟨_, A_tx⟩
  refine r_aload C at_36 (pc' := 38) rfl rfl rfl ?_
  refine r_iconst C at_38 (pc' := 39) rfl (z := (3 : Int32)) rfl ?_
  refine r_iload_n C at_39 (pc' := 40) rfl rfl ?_
  refine r_iconst C at_40 (pc' := 41) rfl (z := (3 : Int32)) rfl ?_
  refine r_lload_n C at_41 (pc' := 42) rfl rfl ?_
  refine r_callS (y := (⟨"com/example/gate2/gate2/xml/XmlCursorLineAtPinLaw", "pick", "(IIJ)C"⟩ : MethodName)) (as := [(.int nl), (.int (3 : Int32)), (.long ch)]) (st := [(.int (3 : Int32)), (.ref tx)]) C (t1 hw) (t2 hw) (t3 hw) (t4 hw) (by decide) pd2 rfl rfl at_42 (pc' := 45) rfl rfl (W := 2) (Nat.le_of_eq rfl) (rmK l Z a0 hw nl (3 : Int32) ch h4 n0) (by decide) (by decide) (by decide) (by decide) ?_
  rintro _ _ ⟨⟨q3, rfl⟩, rfl⟩
  show Run _ _ _ _ _ _ _ _ _ _ _ _ _ _ _ h4 1 6 45 #[.val (.int nl), .val (.long ch), .second, .val (.int p1), .val (.int p2), .val (.int p3), .val (.int p4), .val (.ref tx), .unset, .unset, .unset, .unset, .unset, .unset, .unset, .unset, .unset] [(.int q3), (.int (3 : Int32)), (.ref tx)]
  refine r_castore C at_45 (pc' := 46) rfl A_tx (jn := 3) (by decide) (by decide) ge_tx ?_
  intro h5 K5 A_tx
  have Z0 := Nat.le_trans Z0 K5.1
  have A_tx : IA Z h5 tx .char 6 (fun i => .int ((fun i => if i = 3 then (nar .char q3) else f2 i) i)) := A_tx
  obtain ⟨f3, A_tx⟩ : ∃ g : Nat → Int32, IA Z h5 tx .char 6 (fun i => .int (g i)) := ⟨_, A_tx⟩
  refine r_aload C at_46 (pc' := 48) rfl rfl rfl ?_
  refine r_iconst C at_48 (pc' := 49) rfl (z := (4 : Int32)) rfl ?_
  refine r_iload_n C at_49 (pc' := 50) rfl rfl ?_
  refine r_iconst C at_50 (pc' := 51) rfl (z := (4 : Int32)) rfl ?_
  refine r_lload_n C at_51 (pc' := 52) rfl rfl ?_
  refine r_callS (y := (⟨"com/example/gate2/gate2/xml/XmlCursorLineAtPinLaw", "pick", "(IIJ)C"⟩ : MethodName)) (as := [(.int nl), (.int (4 : Int32)), (.long ch)]) (st := [(.int (4 : Int32)), (.ref tx)]) C (t1 hw) (t2 hw) (t3 hw) (t4 hw) (by decide) pd2 rfl rfl at_52 (pc' := 55) rfl rfl (W := 2) (Nat.le_of_eq rfl) (rmK l Z a0 hw nl (4 : Int32) ch h5 n0) (by decide) (by decide) (by decide) (by decide) ?_
  rintro _ _ ⟨⟨q4, rfl⟩, rfl⟩
  show Run _ _ _ _ _ _ _ _ _ _ _ _ _ _ _ h5 1 6 55 #[.val (.int nl), .val (.long ch), .second, .val (.int p1), .val (.int p2), .val (.int p3), .val (.int p4), .val (.ref tx), .unset, .unset, .unset, .unset, .unset, .unset, .unset, .unset, .unset] [(.int q4), (.int (4 : Int32)), (.ref tx)]
  refine r_castore C at_55 (pc' := 56) rfl A_tx (jn := 4) (by decide) (by decide) ge_tx ?_
  intro h6 K6 A_tx
  have Z0 := Nat.le_trans Z0 K6.1
  have A_tx : IA Z h6 tx .char 6 (fun i => .int ((fun i => if i = 4 then (nar .char q4) else f3 i) i)) := A_tx
  obtain ⟨f4, A_tx⟩ : ∃ g : Nat → Int32, IA Z h6 tx .char 6 (fun i => .int (g i)) := ⟨_, A_tx⟩
  refine r_aload C at_56 (pc' := 58) rfl rfl rfl ?_
  refine r_iconst C at_58 (pc' := 59) rfl (z := (5 : Int32)) rfl ?_
  refine r_iload_n C at_59 (pc' := 60) rfl rfl ?_
  refine r_iconst C at_60 (pc' := 61) rfl (z := (5 : Int32)) rfl ?_
  refine r_lload_n C at_61 (pc' := 62) rfl rfl ?_
  refine r_callS (y := (⟨"com/example/gate2/gate2/xml/XmlCursorLineAtPinLaw", "pick", "(IIJ)C"⟩ : MethodName)) (as := [(.int nl), (.int (5 : Int32)), (.long ch)]) (st := [(.int (5 : Int32)), (.ref tx)]) C (t1 hw) (t2 hw) (t3 hw) (t4 hw) (by decide) pd2 rfl rfl at_62 (pc' := 65) rfl rfl (W := 2) (Nat.le_of_eq rfl) (rmK l Z a0 hw nl (5 : Int32) ch h6 n0) (by decide) (by decide) (by decide) (by decide) ?_
  rintro _ _ ⟨⟨q5, rfl⟩, rfl⟩
  show Run _ _ _ _ _ _ _ _ _ _ _ _ _ _ _ h6 1 6 65 #[.val (.int nl), .val (.long ch), .second, .val (.int p1), .val (.int p2), .val (.int p3), .val (.int p4), .val (.ref tx), .unset, .unset, .unset, .unset, .unset, .unset, .unset, .unset, .unset] [(.int q5), (.int (5 : Int32)), (.ref tx)]
  refine r_castore C at_65 (pc' := 66) rfl A_tx (jn := 5) (by decide) (by decide) ge_tx ?_
  intro h7 K7 A_tx
  have Z0 := Nat.le_trans Z0 K7.1
  have A_tx : IA Z h7 tx .char 6 (fun i => .int ((fun i => if i = 5 then (nar .char q5) else f4 i) i)) := A_tx
  obtain ⟨f5, A_tx⟩ : ∃ g : Nat → Int32, IA Z h7 tx .char 6 (fun i => .int (g i)) := ⟨_, A_tx⟩
  refine r_iload_n C at_66 (pc' := 67) rfl rfl ?_
  refine r_ldc C (t6 hw) at_67 (pc' := 69) rfl ?_
  refine r_iand C at_69 (pc' := 70) rfl (z := (p1 &&& (2147483647 : Int32))) rfl ?_
  refine r_bipush C at_70 (pc' := 72) rfl (z := (7 : Int32)) rfl ?_
  refine r_irem C at_72 (pc' := 73) rfl (by decide) (z := va) ea ?_
  refine r_istore C at_73 (pc' := 75) rfl (ls' := #[.val (.int nl), .val (.long ch), .second, .val (.int p1), .val (.int p2), .val (.int p3), .val (.int p4), .val (.ref tx), .val (.int va), .unset, .unset, .unset, .unset, .unset, .unset, .unset, .unset]) rfl ?_
  refine r_iload C at_75 (pc' := 77) rfl rfl ?_
  refine r_ldc C (t6 hw) at_77 (pc' := 79) rfl ?_
  refine r_iand C at_79 (pc' := 80) rfl (z := (p2 &&& (2147483647 : Int32))) rfl ?_
  refine r_bipush C at_80 (pc' := 82) rfl (z := (7 : Int32)) rfl ?_
  refine r_irem C at_82 (pc' := 83) rfl (by decide) (z := vb) eb ?_
  refine r_istore C at_83 (pc' := 85) rfl (ls' := #[.val (.int nl), .val (.long ch), .second, .val (.int p1), .val (.int p2), .val (.int p3), .val (.int p4), .val (.ref tx), .val (.int va), .val (.int vb), .unset, .unset, .unset, .unset, .unset, .unset, .unset]) rfl ?_
  refine r_iload C at_85 (pc' := 87) rfl rfl ?_
  refine r_ldc C (t6 hw) at_87 (pc' := 89) rfl ?_
  refine r_iand C at_89 (pc' := 90) rfl (z := (p3 &&& (2147483647 : Int32))) rfl ?_
  refine r_bipush C at_90 (pc' := 92) rfl (z := (7 : Int32)) rfl ?_
  refine r_irem C at_92 (pc' := 93) rfl (by decide) (z := vc) ec ?_
  refine r_istore C at_93 (pc' := 95) rfl (ls' := #[.val (.int nl), .val (.long ch), .second, .val (.int p1), .val (.int p2), .val (.int p3), .val (.int p4), .val (.ref tx), .val (.int va), .val (.int vb), .val (.int vc), .unset, .unset, .unset, .unset, .unset, .unset]) rfl ?_
  refine r_iload C at_95 (pc' := 97) rfl rfl ?_
  refine r_ldc C (t6 hw) at_97 (pc' := 99) rfl ?_
  refine r_iand C at_99 (pc' := 100) rfl (z := (p4 &&& (2147483647 : Int32))) rfl ?_
  refine r_bipush C at_100 (pc' := 102) rfl (z := (7 : Int32)) rfl ?_
  refine r_irem C at_102 (pc' := 103) rfl (by decide) (z := vd) ed ?_
  refine r_istore C at_103 (pc' := 105) rfl (ls' := #[.val (.int nl), .val (.long ch), .second, .val (.int p1), .val (.int p2), .val (.int p3), .val (.int p4), .val (.ref tx), .val (.int va), .val (.int vb), .val (.int vc), .val (.int vd), .unset, .unset, .unset, .unset, .unset]) rfl ?_
  refine r_new C (t7 hw) (t8 hw) (t9 hw) at_105 (pc' := 108) rfl (by decide) (by decide) ?_
  intro ob h8 ha_ob K8 E_ob D_ob
  have ne_tx_ob : tx ≠ ob := Nat.ne_of_lt (Nat.lt_of_lt_of_le A_tx.lt (Nat.le_of_eq (Eq.symm ha_ob)))
  have ne_ob_tx : ob ≠ tx := fun q => ne_tx_ob q.symm
  have ge_ob : n0 ≤ ob := Nat.le_trans Z0 (Nat.le_of_eq (Eq.symm ha_ob))
  have A_tx := A_tx.keep K8 nin0
  have Z0 := Nat.le_trans Z0 K8.1
  have F_countedLine_ob : Fld Z h8 ob "com/example/gate2/gate2/xml/XmlCursor" "countedLine" "I" (.int (0 : Int32)) := D_ob (Or.inl (t25 hw)) (ty := .int) (by decide)
  have F_entities_ob : Fld Z h8 ob "com/example/gate2/gate2/xml/XmlCursor" "entities" "Ljava/util/Set;" .null := D_ob (Or.inr (t72 hw)) (ty := (.object "java/util/Set")) (by decide)
  have F_text_ob : Fld Z h8 ob "com/example/gate2/gate2/xml/XmlCursor" "text" "[C" .null := D_ob (Or.inr (t74 hw)) (ty := (.array .char)) (by decide)
  have F_illegal_ob : Fld Z h8 ob "com/example/gate2/gate2/xml/XmlCursor" "illegal" "Lcom/example/gate2/gate2/BeansException;" .null := D_ob (Or.inr (t76 hw)) (ty := (.object "com/example/gate2/gate2/BeansException")) (by decide)
  have F_source_ob : Fld Z h8 ob "com/example/gate2/gate2/xml/XmlCursor" "source" "Ljava/lang/String;" .null := D_ob (Or.inr (t78 hw)) (ty := (.object "java/lang/String")) (by decide)
  have F_countedTo_ob : Fld Z h8 ob "com/example/gate2/gate2/xml/XmlCursor" "countedTo" "I" (.int (0 : Int32)) := D_ob (Or.inl (t85 hw)) (ty := .int) (by decide)
  refine r_dup C at_108 (pc' := 109) rfl rfl ?_
  refine r_aload C at_109 (pc' := 111) rfl rfl rfl ?_
  refine r_aconst_null C at_111 (pc' := 112) rfl ?_
  refine r_ldcS (n := 12) C (t10 hw) (own_wS hw) at_112 (pc' := 114) rfl (by decide) (by decide) (by decide) (by decide) ?_
  intro sr h9 K9
  have A_tx := A_tx.keep K9 nin0
  have E_ob := E_ob.keep K9
  have F_countedLine_ob := F_countedLine_ob.keep K9 nin0
  have F_entities_ob := F_entities_ob.keep K9 nin0
  have F_text_ob := F_text_ob.keep K9 nin0
  have F_illegal_ob := F_illegal_ob.keep K9 nin0
  have F_source_ob := F_source_ob.keep K9 nin0
  have F_countedTo_ob := F_countedTo_ob.keep K9 nin0
  have Z0 := Nat.le_trans Z0 K9.1
  show Run _ _ _ _ _ _ _ _ _ _ _ _ _ _ _ h9 4 30 114 #[.val (.int nl), .val (.long ch), .second, .val (.int p1), .val (.int p2), .val (.int p3), .val (.int p4), .val (.ref tx), .val (.int va), .val (.int vb), .val (.int vc), .val (.int vd), .unset, .unset, .unset, .unset, .unset] [(.ref sr), .null, (.ref tx), (.ref ob), (.ref ob)]
  refine r_callI (y := (⟨"com/example/gate2/gate2/xml/XmlCursor", "<init>", "([CLcom/example/gate2/gate2/BeansException;Ljava/lang/String;)V"⟩ : MethodName)) (a := ob) (as := [(.ref tx), .null, (.ref sr)]) (st := [(.ref ob)]) C rfl (t18 hw) (t19 hw) (t9 hw) (t20 hw) (by decide) pd3 rfl rfl at_114 (pc' := 117) rfl rfl (W := 1) (Nat.le_of_eq rfl) (rmX l Z a0 hw ob tx sr h9 n0 Z0 ge_ob E_ob F_countedLine_ob F_entities_ob F_text_ob F_illegal_ob F_source_ob F_countedTo_ob) (by decide) (by decide) (by decide) (by decide) ?_
  rintro _ h10 ⟨rfl, K10, E_ob, F_countedLine_ob, F_text_ob, F_countedTo_ob⟩
  have A_tx := A_tx.keep K10 (ninS ne_tx_ob nin0)
  have Z0 := Nat.le_trans Z0 K10.1
  show Run _ _ _ _ _ _ _ _ _ _ _ _ _ _ _ h10 6 40 117 #[.val (.int nl), .val (.long ch), .second, .val (.int p1), .val (.int p2), .val (.int p3), .val (.int p4), .val (.ref tx), .val (.int va), .val (.int vb), .val (.int vc), .val (.int vd), .unset, .unset, .unset, .unset, .unset] [(.ref ob)]
  refine r_astore C at_117 (pc' := 119) rfl rfl (ls' := #[.val (.int nl), .val (.long ch), .second, .val (.int p1), .val (.int p2), .val (.int p3), .val (.int p4), .val (.ref tx), .val (.int va), .val (.int vb), .val (.int vc), .val (.int vd), .val (.ref ob), .unset, .unset, .unset, .unset]) rfl ?_
  refine r_aload C at_119 (pc' := 121) rfl rfl rfl ?_
  refine r_iload C at_121 (pc' := 123) rfl rfl ?_
  refine r_callV (y := (⟨"com/example/gate2/gate2/xml/XmlCursor", "lineAt", "(I)I"⟩ : MethodName)) (z := (⟨"com/example/gate2/gate2/xml/XmlCursor", "lineAt", "(I)I"⟩ : MethodName)) (K0 := "com/example/gate2/gate2/xml/XmlCursor") (a := ob) (as := [(.int va)]) (st := []) C (t79 hw) (t80 hw) (t82 hw) (t82 hw) (t81 hw) (t9 hw) (t83 hw) (by decide) pd4 rfl rfl at_123 (pc' := 126) rfl rfl (W := 0) (Nat.le_of_eq rfl) E_ob (rmL l Z a0 hw ob va tx (0 : Int32) an 0 f5 h10 n0 Z0 ge_ob ne_tx_ob ha ha6 rfl (by decide) E_ob F_countedTo_ob F_countedLine_ob F_text_ob A_tx) (by decide) (by decide) (by decide) (by decide) ?_
  rintro _ h11 ⟨rfl, K11, ta, hta, E_ob, F_countedTo_ob, F_countedLine_ob, F_text_ob, A_tx⟩
  have Z0 := Nat.le_trans Z0 K11.1
  show Run _ _ _ _ _ _ _ _ _ _ _ _ _ _ _ h11 6 40 126 #[.val (.int nl), .val (.long ch), .second, .val (.int p1), .val (.int p2), .val (.int p3), .val (.int p4), .val (.ref tx), .val (.int va), .val (.int vb), .val (.int vc), .val (.int vd), .val (.ref ob), .unset, .unset, .unset, .unset] [(.int (own_lines f5 an))]
  refine r_istore C at_126 (pc' := 128) rfl (ls' := #[.val (.int nl), .val (.long ch), .second, .val (.int p1), .val (.int p2), .val (.int p3), .val (.int p4), .val (.ref tx), .val (.int va), .val (.int vb), .val (.int vc), .val (.int vd), .val (.ref ob), .val (.int (own_lines f5 an)), .unset, .unset, .unset]) rfl ?_
  refine r_aload C at_128 (pc' := 130) rfl rfl rfl ?_
  refine r_iload C at_130 (pc' := 132) rfl rfl ?_
  refine r_callV (y := (⟨"com/example/gate2/gate2/xml/XmlCursor", "lineAt", "(I)I"⟩ : MethodName)) (z := (⟨"com/example/gate2/gate2/xml/XmlCursor", "lineAt", "(I)I"⟩ : MethodName)) (K0 := "com/example/gate2/gate2/xml/XmlCursor") (a := ob) (as := [(.int vb)]) (st := []) C (t79 hw) (t80 hw) (t82 hw) (t82 hw) (t81 hw) (t9 hw) (t83 hw) (by decide) pd4 rfl rfl at_132 (pc' := 135) rfl rfl (W := 0) (Nat.le_of_eq rfl) E_ob (rmL l Z a0 hw ob vb tx ta bn an f5 h11 n0 Z0 ge_ob ne_tx_ob hb hb6 hta ha6 E_ob F_countedTo_ob F_countedLine_ob F_text_ob A_tx) (by decide) (by decide) (by decide) (by decide) ?_
  rintro _ h12 ⟨rfl, K12, tb, htb, E_ob, F_countedTo_ob, F_countedLine_ob, F_text_ob, A_tx⟩
  have Z0 := Nat.le_trans Z0 K12.1
  show Run _ _ _ _ _ _ _ _ _ _ _ _ _ _ _ h12 6 40 135 #[.val (.int nl), .val (.long ch), .second, .val (.int p1), .val (.int p2), .val (.int p3), .val (.int p4), .val (.ref tx), .val (.int va), .val (.int vb), .val (.int vc), .val (.int vd), .val (.ref ob), .val (.int (own_lines f5 an)), .unset, .unset, .unset] [(.int (own_lines f5 bn))]
  refine r_istore C at_135 (pc' := 137) rfl (ls' := #[.val (.int nl), .val (.long ch), .second, .val (.int p1), .val (.int p2), .val (.int p3), .val (.int p4), .val (.ref tx), .val (.int va), .val (.int vb), .val (.int vc), .val (.int vd), .val (.ref ob), .val (.int (own_lines f5 an)), .val (.int (own_lines f5 bn)), .unset, .unset]) rfl ?_
  refine r_aload C at_137 (pc' := 139) rfl rfl rfl ?_
  refine r_iload C at_139 (pc' := 141) rfl rfl ?_
  refine r_callV (y := (⟨"com/example/gate2/gate2/xml/XmlCursor", "lineAt", "(I)I"⟩ : MethodName)) (z := (⟨"com/example/gate2/gate2/xml/XmlCursor", "lineAt", "(I)I"⟩ : MethodName)) (K0 := "com/example/gate2/gate2/xml/XmlCursor") (a := ob) (as := [(.int vc)]) (st := []) C (t79 hw) (t80 hw) (t82 hw) (t82 hw) (t81 hw) (t9 hw) (t83 hw) (by decide) pd4 rfl rfl at_141 (pc' := 144) rfl rfl (W := 0) (Nat.le_of_eq rfl) E_ob (rmL l Z a0 hw ob vc tx tb cn bn f5 h12 n0 Z0 ge_ob ne_tx_ob hc hc6 htb hb6 E_ob F_countedTo_ob F_countedLine_ob F_text_ob A_tx) (by decide) (by decide) (by decide) (by decide) ?_
  rintro _ h13 ⟨rfl, K13, tc, htc, E_ob, F_countedTo_ob, F_countedLine_ob, F_text_ob, A_tx⟩
  have Z0 := Nat.le_trans Z0 K13.1
  show Run _ _ _ _ _ _ _ _ _ _ _ _ _ _ _ h13 6 40 144 #[.val (.int nl), .val (.long ch), .second, .val (.int p1), .val (.int p2), .val (.int p3), .val (.int p4), .val (.ref tx), .val (.int va), .val (.int vb), .val (.int vc), .val (.int vd), .val (.ref ob), .val (.int (own_lines f5 an)), .val (.int (own_lines f5 bn)), .unset, .unset] [(.int (own_lines f5 cn))]
  refine r_istore C at_144 (pc' := 146) rfl (ls' := #[.val (.int nl), .val (.long ch), .second, .val (.int p1), .val (.int p2), .val (.int p3), .val (.int p4), .val (.ref tx), .val (.int va), .val (.int vb), .val (.int vc), .val (.int vd), .val (.ref ob), .val (.int (own_lines f5 an)), .val (.int (own_lines f5 bn)), .val (.int (own_lines f5 cn)), .unset]) rfl ?_
  refine r_aload C at_146 (pc' := 148) rfl rfl rfl ?_
  refine r_iload C at_148 (pc' := 150) rfl rfl ?_
  refine r_callV (y := (⟨"com/example/gate2/gate2/xml/XmlCursor", "lineAt", "(I)I"⟩ : MethodName)) (z := (⟨"com/example/gate2/gate2/xml/XmlCursor", "lineAt", "(I)I"⟩ : MethodName)) (K0 := "com/example/gate2/gate2/xml/XmlCursor") (a := ob) (as := [(.int vd)]) (st := []) C (t79 hw) (t80 hw) (t82 hw) (t82 hw) (t81 hw) (t9 hw) (t83 hw) (by decide) pd4 rfl rfl at_150 (pc' := 153) rfl rfl (W := 0) (Nat.le_of_eq rfl) E_ob (rmL l Z a0 hw ob vd tx tc dn cn f5 h13 n0 Z0 ge_ob ne_tx_ob hd hd6 htc hc6 E_ob F_countedTo_ob F_countedLine_ob F_text_ob A_tx) (by decide) (by decide) (by decide) (by decide) ?_
  rintro _ h14 ⟨rfl, K14, td, htd, E_ob, F_countedTo_ob, F_countedLine_ob, F_text_ob, A_tx⟩
  have Z0 := Nat.le_trans Z0 K14.1
  show Run _ _ _ _ _ _ _ _ _ _ _ _ _ _ _ h14 6 40 153 #[.val (.int nl), .val (.long ch), .second, .val (.int p1), .val (.int p2), .val (.int p3), .val (.int p4), .val (.ref tx), .val (.int va), .val (.int vb), .val (.int vc), .val (.int vd), .val (.ref ob), .val (.int (own_lines f5 an)), .val (.int (own_lines f5 bn)), .val (.int (own_lines f5 cn)), .unset] [(.int (own_lines f5 dn))]
  refine r_istore C at_153 (pc' := 155) rfl (ls' := #[.val (.int nl), .val (.long ch), .second, .val (.int p1), .val (.int p2), .val (.int p3), .val (.int p4), .val (.ref tx), .val (.int va), .val (.int vb), .val (.int vc), .val (.int vd), .val (.ref ob), .val (.int (own_lines f5 an)), .val (.int (own_lines f5 bn)), .val (.int (own_lines f5 cn)), .val (.int (own_lines f5 dn))]) rfl ?_
  refine r_iload C at_155 (pc' := 157) rfl rfl ?_
  refine r_aload C at_157 (pc' := 159) rfl rfl rfl ?_
  refine r_iload C at_159 (pc' := 161) rfl rfl ?_
  refine r_callS (y := (⟨"com/example/gate2/gate2/xml/XmlCursorLineAtPinLaw", "lines", "([CI)I"⟩ : MethodName)) (as := [(.ref tx), (.int va)]) (st := [(.int (own_lines f5 an))]) C (t86 hw) (t87 hw) (t3 hw) (t88 hw) (by decide) pd5 rfl rfl at_161 (pc' := 164) rfl rfl (W := 1) (Nat.le_of_eq rfl) (rmN l Z a0 hw tx va an f5 h14 n0 ha ha6 A_tx) (by decide) (by decide) (by decide) (by decide) ?_
  rintro _ _ ⟨rfl, rfl⟩
  show Run _ _ _ _ _ _ _ _ _ _ _ _ _ _ _ h14 6 40 164 #[.val (.int nl), .val (.long ch), .second, .val (.int p1), .val (.int p2), .val (.int p3), .val (.int p4), .val (.ref tx), .val (.int va), .val (.int vb), .val (.int vc), .val (.int vd), .val (.ref ob), .val (.int (own_lines f5 an)), .val (.int (own_lines f5 bn)), .val (.int (own_lines f5 cn)), .val (.int (own_lines f5 dn))] [(.int (own_lines f5 an)), (.int (own_lines f5 an))]
  refine r_icmpne C at_164 (pcT := 207) (pcF := 167) (by decide) rfl ?_ ?_
  · intro c164
    exact absurd rfl c164
  intro c164
  refine r_iload C at_167 (pc' := 169) rfl rfl ?_
  refine r_aload C at_169 (pc' := 171) rfl rfl rfl ?_
  refine r_iload C at_171 (pc' := 173) rfl rfl ?_
  refine r_callS (y := (⟨"com/example/gate2/gate2/xml/XmlCursorLineAtPinLaw", "lines", "([CI)I"⟩ : MethodName)) (as := [(.ref tx), (.int vb)]) (st := [(.int (own_lines f5 bn))]) C (t86 hw) (t87 hw) (t3 hw) (t88 hw) (by decide) pd5 rfl rfl at_173 (pc' := 176) rfl rfl (W := 1) (Nat.le_of_eq rfl) (rmN l Z a0 hw tx vb bn f5 h14 n0 hb hb6 A_tx) (by decide) (by decide) (by decide) (by decide) ?_
  rintro _ _ ⟨rfl, rfl⟩
  show Run _ _ _ _ _ _ _ _ _ _ _ _ _ _ _ h14 6 40 176 #[.val (.int nl), .val (.long ch), .second, .val (.int p1), .val (.int p2), .val (.int p3), .val (.int p4), .val (.ref tx), .val (.int va), .val (.int vb), .val (.int vc), .val (.int vd), .val (.ref ob), .val (.int (own_lines f5 an)), .val (.int (own_lines f5 bn)), .val (.int (own_lines f5 cn)), .val (.int (own_lines f5 dn))] [(.int (own_lines f5 bn)), (.int (own_lines f5 bn))]
  refine r_icmpne C at_176 (pcT := 207) (pcF := 179) (by decide) rfl ?_ ?_
  · intro c176
    exact absurd rfl c176
  intro c176
  refine r_iload C at_179 (pc' := 181) rfl rfl ?_
  refine r_aload C at_181 (pc' := 183) rfl rfl rfl ?_
  refine r_iload C at_183 (pc' := 185) rfl rfl ?_
  refine r_callS (y := (⟨"com/example/gate2/gate2/xml/XmlCursorLineAtPinLaw", "lines", "([CI)I"⟩ : MethodName)) (as := [(.ref tx), (.int vc)]) (st := [(.int (own_lines f5 cn))]) C (t86 hw) (t87 hw) (t3 hw) (t88 hw) (by decide) pd5 rfl rfl at_185 (pc' := 188) rfl rfl (W := 1) (Nat.le_of_eq rfl) (rmN l Z a0 hw tx vc cn f5 h14 n0 hc hc6 A_tx) (by decide) (by decide) (by decide) (by decide) ?_
  rintro _ _ ⟨rfl, rfl⟩
  show Run _ _ _ _ _ _ _ _ _ _ _ _ _ _ _ h14 6 40 188 #[.val (.int nl), .val (.long ch), .second, .val (.int p1), .val (.int p2), .val (.int p3), .val (.int p4), .val (.ref tx), .val (.int va), .val (.int vb), .val (.int vc), .val (.int vd), .val (.ref ob), .val (.int (own_lines f5 an)), .val (.int (own_lines f5 bn)), .val (.int (own_lines f5 cn)), .val (.int (own_lines f5 dn))] [(.int (own_lines f5 cn)), (.int (own_lines f5 cn))]
  refine r_icmpne C at_188 (pcT := 207) (pcF := 191) (by decide) rfl ?_ ?_
  · intro c188
    exact absurd rfl c188
  intro c188
  refine r_iload C at_191 (pc' := 193) rfl rfl ?_
  refine r_aload C at_193 (pc' := 195) rfl rfl rfl ?_
  refine r_iload C at_195 (pc' := 197) rfl rfl ?_
  refine r_callS (y := (⟨"com/example/gate2/gate2/xml/XmlCursorLineAtPinLaw", "lines", "([CI)I"⟩ : MethodName)) (as := [(.ref tx), (.int vd)]) (st := [(.int (own_lines f5 dn))]) C (t86 hw) (t87 hw) (t3 hw) (t88 hw) (by decide) pd5 rfl rfl at_197 (pc' := 200) rfl rfl (W := 1) (Nat.le_of_eq rfl) (rmN l Z a0 hw tx vd dn f5 h14 n0 hd hd6 A_tx) (by decide) (by decide) (by decide) (by decide) ?_
  rintro _ _ ⟨rfl, rfl⟩
  show Run _ _ _ _ _ _ _ _ _ _ _ _ _ _ _ h14 6 40 200 #[.val (.int nl), .val (.long ch), .second, .val (.int p1), .val (.int p2), .val (.int p3), .val (.int p4), .val (.ref tx), .val (.int va), .val (.int vb), .val (.int vc), .val (.int vd), .val (.ref ob), .val (.int (own_lines f5 an)), .val (.int (own_lines f5 bn)), .val (.int (own_lines f5 cn)), .val (.int (own_lines f5 dn))] [(.int (own_lines f5 dn)), (.int (own_lines f5 dn))]
  refine r_icmpne C at_200 (pcT := 207) (pcF := 203) (by decide) rfl ?_ ?_
  · intro c200
    exact absurd rfl c200
  intro c200
  refine r_iconst C at_203 (pc' := 204) rfl (z := (1 : Int32)) rfl ?_
  refine r_goto C at_204 (pc' := 208) (by decide) ?_
  exact r_ireturnNW (t := .boolean) (by simp) C at_208 rfl (by decide) (by decide)
set_option maxRecDepth 65536 in
set_option maxHeartbeats 40000000 in
theorem comes_1 {Post : Tables → Env → Array Value → State → Outcome → State → Prop} (hpost : ∀ tb e args s v u, (limb_1_1.after args s (.returned v) u = true ∧ limb_1_2.after args s (.returned v) u = true ∧ True) → ReturnedEndW s (.returned v) u (Jvm.fieldLocs frame_1_writes args s ++ Jvm.arrayLocs frame_1_arrays args s ++ Jvm.staticLocs frame_1_statics s) 24 1152 → Post tb e args s (.returned v) u) :
    ArmFor flags0 classFile x code maxLocals ret World_1 tables_1 room_1 Calls_1 rest_1 Pre_1 Post := by
  intro l hfl _ _ p e ha hc hk s m args below hf hA hF happ hP
  obtain ⟨hcalls, hrest, hpre⟩ := hP
  obtain ⟨-, -, -, hnamed, -, -, -, hat⟩ := (Spec.applies_iff hf).mp happ
  obtain ⟨hg, hn⟩ := and_e (Cond.before_iff.mp (show (Jvm.Cond.and given_1 narrow_1).before args s = true from hpre))
  obtain ⟨g0, k0⟩ := and_e hg
  obtain ⟨w0, w1, w2, w3, w4, w5, rfl⟩ : ∃ w0 w1 w2 w3 w4 w5 : Value, args = #[w0, w1, w2, w3, w4, w5] := by
    have hs : args.size = 6 := by simpa [Cond.value, given_1] using g0
    obtain ⟨L⟩ := args
    match L, hs with
    | [w0, w1, w2, w3, w4, w5], _ => exact ⟨w0, w1, w2, w3, w4, w5, rfl⟩
  have hw := fun d (hd : d ∈ tables_1) => atoms_spec (ws := Jvm.Cond.code x code maxLocals ret :: tables_1) hat d (List.mem_cons_of_mem _ hd)
  obtain ⟨j0, k1⟩ := and_e k0
  obtain ⟨i0, e0⟩ := is_v j0
  obtain rfl : w0 = (.int i0) := Option.some.inj e0
  obtain ⟨j1, k2⟩ := and_e k1
  obtain ⟨i1, e1⟩ := isL_v j1
  obtain rfl : w1 = (.long i1) := Option.some.inj e1
  obtain ⟨j2, k3⟩ := and_e k2
  obtain ⟨i2, e2⟩ := is_v j2
  obtain rfl : w2 = (.int i2) := Option.some.inj e2
  obtain ⟨j3, k4⟩ := and_e k3
  obtain ⟨i3, e3⟩ := is_v j3
  obtain rfl : w3 = (.int i3) := Option.some.inj e3
  obtain ⟨j4, k5⟩ := and_e k4
  obtain ⟨i4, e4⟩ := is_v j4
  obtain rfl : w4 = (.int i4) := Option.some.inj e4
  have j5 := k5
  obtain ⟨i5, e5⟩ := is_v j5
  obtain rfl : w5 = (.int i5) := Option.some.inj e5
  obtain ⟨n, o, h1, h2, h3, _, L, rfl, ⟨rfl, N⟩, hq⟩ := rm0 l s _ hw i0 i1 i2 i3 i4 i5 s.heap s.heap.size (Nat.le_refl _) tables_1 p e ha hc hk s m _ below hf ((Spec.applies_iff_loose hf).mp happ).1 ⟨rfl, State.Warmed39.refl s, rfl⟩ trivial
  refine ⟨n, _, h1, h2, h3, hpost _ _ _ _ _ _ ⟨Cond.after_iff.mpr rfl, Cond.after_iff.mpr (eq_i res_at (Term.int_eval (1)) rfl), trivial⟩ ⟨hq.1, hq.2.1, hq.2.2.1, (hq.2.2.2.sift fun y hy => Or.inr (N y hy)).mono (by decide) (by decide)⟩⟩
theorem main_1_1 : Claimed_1_1 := comes_1 fun _ _ _ _ _ _ h hF => ⟨h.1, hF⟩
theorem main_1_2 : Claimed_1_2 := comes_1 fun _ _ _ _ _ _ h hF => ⟨h.2.1, hF⟩
end Jvm.Pilot.@@N@@
namespace Jvm.Pilot.@@N@@
open Jvm Jvm.ClassFile Sem Op Lib Jvm.Free Jvm.Stand Jvm.Pilot.@@N@@.Jvm.D
/-! MADE BY PROGRAM (witnessworld.py) out of the Statement's table words and the real class files: 32 classes; the members and pool entries that the words name. The judged class is class 1, her method 1. -/
namespace start1
open Jvm.ClassFile
def u (s : String) : CpInfo := .utf8 (stringToUtf16 s)
/-- a pool by its gaps: so many unusable entries, then the entry; so many at the end -/
def gap : Nat → List CpInfo → List CpInfo
  | 0, r => r
  | n + 1, r => .unusable :: gap n r
def poolList (es : List (Nat × CpInfo)) (last : Nat) : List CpInfo := es.foldr (fun e r => gap e.1 (e.2 :: r)) (gap last [])
def pool (es : List (Nat × CpInfo)) (last : Nat) : Array CpInfo := ⟨poolList es last⟩
def fileOf (pool : Array CpInfo) (this : Nat) (attrs : Array Attribute := #[]) (ms : Array MethodInfo := #[]) (fl : Nat := 33) (sup : Nat := 0) (ifs : Array Nat := #[]) (fds : Array FieldInfo := #[]) : ClassFile where
  minorVersion := 0
  majorVersion := 65
  constantPool := pool
  accessFlags := fl
  thisClass := this
  superClass := sup
  interfaces := ifs
  fields := fds
  methods := ms
  attributes := attrs
def plain (name : String) (sup : Option ClassId) : Class where
  name := name
  kind := .ordinary
  loader := none
  accessFlags := 33
  super := sup
  interfaces := #[]
  cf := none
  fields := #[]
  methods := #[]
  instanceTypes := #[]
  staticTypes := #[]
  resolved := #[]
  callSites := []
  init := .initialized
  statics := none
  mirror := none

def pool0 : Array CpInfo := pool [(5, u "<init>"), (0, u "()V"), (1, .class_ 10), (1, u "java/lang/Object")] 113

def k0c0 : Code := { maxStack := 0, maxLocals := 1, code := object_method_1_code, exceptionTable := #[], attributes := #[] }
def k0m0 : Method := { name := "<init>", desc := "()V", sig := { parameters := [], returnType := none }, accessFlags := 1, code := some k0c0 }
/-- java/lang/Object -/
def k0 : Class := { plain "java/lang/Object" none with
  accessFlags := 33
  interfaces := #[]
  cf := some (fileOf pool0 8 #[] #[{ accessFlags := 1, nameIndex := 5, descriptorIndex := 6, attributes := #[] }] 33 0 #[] #[])
  fields := #[]
  methods := #[k0m0]
  instanceTypes := #[]
  staticTypes := #[]
  resolved := Array.replicate 124 none
  statics := none }

def pool1 : Array CpInfo := pool [(2, .class_ 4), (1, u "java/lang/Object"), (0, u "<init>"), (0, u "()V"), (0, .methodref 8 9), (0, .class_ 10), (0, .nameAndType 11 12), (0, u "com/example/gate2/gate2/xml/XmlCursorLineAtPinLaw"), (0, u "pick"), (0, u "(IIJ)C"), (0, .integer 2147483647), (0, .class_ 15), (0, u "com/example/gate2/gate2/xml/XmlCursor"), (0, .string 17), (0, u "doc"), (0, .methodref 14 19), (0, .nameAndType 5 20), (0, u "([CLcom/example/gate2/gate2/BeansException;Ljava/lang/String;)V"), (0, .methodref 14 22), (0, .nameAndType 23 24), (0, u "lineAt"), (0, u "(I)I"), (0, .methodref 8 26), (0, .nameAndType 27 28), (0, u "lines"), (0, u "([CI)I"), (0, .long 255), (3, u "law"), (0, u "(IJIIII)Z")] 5

def k1m0 : Method := { name := "<init>", desc := "()V", sig := { parameters := [], returnType := none }, accessFlags := 1, code := none }
def k1c1 : Code := { maxStack := 6, maxLocals := 17, code := code, exceptionTable := #[], attributes := #[] }
def k1m1 : Method := { name := "law", desc := "(IJIIII)Z", sig := { parameters := [.int, .long, .int, .int, .int, .int], returnType := some .boolean }, accessFlags := 9, code := some k1c1 }
def k1c2 : Code := { maxStack := 4, maxLocals := 4, code := method_3_code, exceptionTable := #[], attributes := #[] }
def k1m2 : Method := { name := "pick", desc := "(IIJ)C", sig := { parameters := [.int, .int, .long], returnType := some .char }, accessFlags := 10, code := some k1c2 }
def k1c3 : Code := { maxStack := 2, maxLocals := 3, code := method_4_code, exceptionTable := #[], attributes := #[] }
def k1m3 : Method := { name := "lines", desc := "([CI)I", sig := { parameters := [(.array .char), .int], returnType := some .int }, accessFlags := 10, code := some k1c3 }
/-- com/example/gate2/gate2/xml/XmlCursorLineAtPinLaw -/
def k1 : Class := { plain "com/example/gate2/gate2/xml/XmlCursorLineAtPinLaw" (some 0) with
  accessFlags := 49
  interfaces := #[]
  cf := some (fileOf pool1 8 #[] #[{ accessFlags := 1, nameIndex := 5, descriptorIndex := 6, attributes := #[] }, { accessFlags := 9, nameIndex := 33, descriptorIndex := 34, attributes := #[] }, { accessFlags := 10, nameIndex := 11, descriptorIndex := 12, attributes := #[] }, { accessFlags := 10, nameIndex := 27, descriptorIndex := 28, attributes := #[] }] 49 2 #[] #[])
  fields := #[]
  methods := #[k1m0, k1m1, k1m2, k1m3]
  instanceTypes := #[]
  staticTypes := #[]
  resolved := Array.replicate 40 none
  statics := none }

def pool2 : Array CpInfo := pool [(1, .methodref 2 3), (0, .class_ 4), (0, .nameAndType 5 6), (0, u "java/lang/Object"), (0, u "<init>"), (0, u "()V"), (0, .fieldref 8 9), (0, .class_ 10), (0, .nameAndType 11 12), (0, u "com/example/gate2/gate2/xml/XmlCursor"), (0, u "countedLine"), (0, u "I"), (0, .class_ 14), (0, u "java/util/TreeSet"), (0, .methodref 13 3), (0, .fieldref 8 17), (0, .nameAndType 18 19), (0, u "entities"), (0, u "Ljava/util/Set;"), (0, .fieldref 8 21), (0, .nameAndType 22 23), (0, u "text"), (0, u "[C"), (0, .fieldref 8 25), (0, .nameAndType 26 27), (0, u "illegal"), (0, u "Lcom/example/gate2/gate2/BeansException;"), (0, .fieldref 8 29), (0, .nameAndType 30 31), (0, u "source"), (0, u "Ljava/lang/String;"), (2, u "pos"), (75, u "(I)I"), (167, u "endSeen"), (0, u "Z"), (0, .fieldref 8 281), (0, .nameAndType 282 12), (0, u "countedTo"), (4, u "lineAt"), (8, u "([CLcom/example/gate2/gate2/BeansException;Ljava/lang/String;)V")] 72

def k2c0 : Code := { maxStack := 3, maxLocals := 4, code := prog_57_method_1_code, exceptionTable := #[], attributes := #[] }
def k2m0 : Method := { name := "<init>", desc := "([CLcom/example/gate2/gate2/BeansException;Ljava/lang/String;)V", sig := { parameters := [(.array .char), (.object "com/example/gate2/gate2/BeansException"), (.object "java/lang/String")], returnType := none }, accessFlags := 0, code := some k2c0 }
def k2c1 : Code := { maxStack := 3, maxLocals := 2, code := prog_57_method_36_code, exceptionTable := #[], attributes := #[] }
def k2m1 : Method := { name := "lineAt", desc := "(I)I", sig := { parameters := [.int], returnType := some .int }, accessFlags := 0, code := some k2c1 }
/-- com/example/gate2/gate2/xml/XmlCursor -/
def k2 : Class := { plain "com/example/gate2/gate2/xml/XmlCursor" (some 0) with
  accessFlags := 48
  interfaces := #[]
  cf := some (fileOf pool2 8 #[] #[{ accessFlags := 0, nameIndex := 5, descriptorIndex := 296, attributes := #[] }, { accessFlags := 0, nameIndex := 287, descriptorIndex := 110, attributes := #[] }] 48 2 #[] #[{ accessFlags := 18, nameIndex := 22, descriptorIndex := 23, attributes := #[] }, { accessFlags := 18, nameIndex := 26, descriptorIndex := 27, attributes := #[] }, { accessFlags := 2, nameIndex := 278, descriptorIndex := 279, attributes := #[] }, { accessFlags := 18, nameIndex := 30, descriptorIndex := 31, attributes := #[] }, { accessFlags := 2, nameIndex := 34, descriptorIndex := 12, attributes := #[] }, { accessFlags := 2, nameIndex := 282, descriptorIndex := 12, attributes := #[] }, { accessFlags := 2, nameIndex := 11, descriptorIndex := 12, attributes := #[] }, { accessFlags := 18, nameIndex := 18, descriptorIndex := 19, attributes := #[] }])
  fields := #[{ name := "text", type := (.array .char), accessFlags := 18, slot := 0, constantValue := 0 }, { name := "illegal", type := (.object "com/example/gate2/gate2/BeansException"), accessFlags := 18, slot := 1, constantValue := 0 }, { name := "endSeen", type := .boolean, accessFlags := 2, slot := 2, constantValue := 0 }, { name := "source", type := (.object "java/lang/String"), accessFlags := 18, slot := 3, constantValue := 0 }, { name := "pos", type := .int, accessFlags := 2, slot := 4, constantValue := 0 }, { name := "countedTo", type := .int, accessFlags := 2, slot := 5, constantValue := 0 }, { name := "countedLine", type := .int, accessFlags := 2, slot := 6, constantValue := 0 }, { name := "entities", type := (.object "java/util/Set"), accessFlags := 18, slot := 7, constantValue := 0 }]
  methods := #[k2m0, k2m1]
  instanceTypes := #[(.array .char), (.object "com/example/gate2/gate2/BeansException"), .boolean, (.object "java/lang/String"), .int, .int, .int, (.object "java/util/Set")]
  staticTypes := #[]
  resolved := Array.replicate 369 none
  statics := none }

def pool3 : Array CpInfo := pool [(1, .class_ 2), (0, u "java/io/Serializable"), (0, .class_ 4), (0, u "java/lang/Object")] 2

/-- java/io/Serializable -/
def k3 : Class := { plain "java/io/Serializable" (some 0) with
  accessFlags := 1537
  interfaces := #[]
  cf := some (fileOf pool3 1 #[] #[] 1537 3 #[] #[])
  fields := #[]
  methods := #[]
  instanceTypes := #[]
  staticTypes := #[]
  resolved := Array.replicate 7 none
  statics := none }

def pool4 : Array CpInfo := pool [(1, .class_ 2), (0, u "java/lang/Comparable"), (0, .class_ 4), (0, u "java/lang/Object")] 7

/-- java/lang/Comparable -/
def k4 : Class := { plain "java/lang/Comparable" (some 0) with
  accessFlags := 1537
  interfaces := #[]
  cf := some (fileOf pool4 1 #[] #[] 1537 3 #[] #[])
  fields := #[]
  methods := #[]
  instanceTypes := #[]
  staticTypes := #[]
  resolved := Array.replicate 12 none
  statics := none }

def pool5 : Array CpInfo := pool [(2, .class_ 4), (1, u "java/lang/CharSequence"), (42, .class_ 48), (0, u "java/lang/CharSequence$1CodePointIterator"), (10, .class_ 60), (0, u "java/lang/CharSequence$1CharIterator"), (5, .class_ 67), (0, u "java/lang/Object")] 63

/-- java/lang/CharSequence -/
def k5 : Class := { plain "java/lang/CharSequence" (some 0) with
  accessFlags := 1537
  interfaces := #[]
  cf := some (fileOf pool5 2 #[.nestMembers #[47, 59]] #[] 1537 66 #[] #[])
  fields := #[]
  methods := #[]
  instanceTypes := #[]
  staticTypes := #[]
  resolved := Array.replicate 131 none
  statics := none }

def pool6 : Array CpInfo := pool [(1, .class_ 2), (0, u "java/lang/constant/Constable"), (0, .class_ 4), (0, u "java/lang/Object")] 6

/-- java/lang/constant/Constable -/
def k6 : Class := { plain "java/lang/constant/Constable" (some 0) with
  accessFlags := 1537
  interfaces := #[]
  cf := some (fileOf pool6 1 #[] #[] 1537 3 #[] #[])
  fields := #[]
  methods := #[]
  instanceTypes := #[]
  staticTypes := #[]
  resolved := Array.replicate 11 none
  statics := none }

def pool7 : Array CpInfo := pool [(1, .class_ 2), (0, u "java/lang/constant/ConstantDesc"), (0, .class_ 4), (0, u "java/lang/Object")] 32

/-- java/lang/constant/ConstantDesc -/
def k7 : Class := { plain "java/lang/constant/ConstantDesc" (some 0) with
  accessFlags := 1537
  interfaces := #[]
  cf := some (fileOf pool7 1 #[] #[] 1537 3 #[] #[])
  fields := #[]
  methods := #[]
  instanceTypes := #[]
  staticTypes := #[]
  resolved := Array.replicate 37 none
  statics := none }

def pool8 : Array CpInfo := pool [(2, .class_ 4), (1, u "java/lang/Object"), (0, u "<init>"), (0, u "()V"), (3, .class_ 12), (1, u "java/lang/String"), (0, u "value"), (0, u "[B"), (2, u "coder"), (0, u "B"), (2, u "hash"), (0, u "I"), (2, u "hashIsZero"), (0, u "Z"), (13, u "COMPACT_STRINGS"), (534, .class_ 576), (0, u "java/lang/CharSequence"), (22, u "CASE_INSENSITIVE_ORDER"), (0, u "Ljava/util/Comparator;"), (500, u "serialPersistentFields"), (0, u "[Ljava/io/ObjectStreamField;"), (0, .class_ 1104), (0, u "java/lang/String$CaseInsensitiveComparator"), (1, .class_ 1107), (0, u "java/io/Serializable"), (0, .class_ 1109), (0, u "java/lang/Comparable"), (0, .class_ 1111), (0, u "java/lang/constant/Constable"), (0, .class_ 1113), (0, u "java/lang/constant/ConstantDesc"), (2, u "serialVersionUID"), (0, u "J"), (3, u "REPL"), (0, u "C"), (2, u "LATIN1"), (1, u "UTF16")] 323

def k8m0 : Method := { name := "<init>", desc := "()V", sig := { parameters := [], returnType := none }, accessFlags := 1, code := none }
/-- java/lang/String -/
def k8 : Class := { plain "java/lang/String" (some 0) with
  accessFlags := 49
  interfaces := #[3, 4, 5, 6, 7]
  cf := some (fileOf pool8 10 #[.nestMembers #[1103]] #[{ accessFlags := 1, nameIndex := 5, descriptorIndex := 6, attributes := #[] }] 49 2 #[1106, 1108, 575, 1110, 1112] #[{ accessFlags := 18, nameIndex := 13, descriptorIndex := 14, attributes := #[] }, { accessFlags := 18, nameIndex := 17, descriptorIndex := 18, attributes := #[] }, { accessFlags := 2, nameIndex := 21, descriptorIndex := 22, attributes := #[] }, { accessFlags := 2, nameIndex := 25, descriptorIndex := 26, attributes := #[] }, { accessFlags := 26, nameIndex := 1116, descriptorIndex := 1117, attributes := #[] }, { accessFlags := 24, nameIndex := 40, descriptorIndex := 26, attributes := #[] }, { accessFlags := 26, nameIndex := 1101, descriptorIndex := 1102, attributes := #[] }, { accessFlags := 26, nameIndex := 1121, descriptorIndex := 1122, attributes := #[] }, { accessFlags := 25, nameIndex := 599, descriptorIndex := 600, attributes := #[] }, { accessFlags := 24, nameIndex := 1125, descriptorIndex := 18, attributes := #[] }, { accessFlags := 24, nameIndex := 1127, descriptorIndex := 18, attributes := #[] }])
  fields := #[{ name := "value", type := (.array .byte), accessFlags := 18, slot := 0, constantValue := 0 }, { name := "coder", type := .byte, accessFlags := 18, slot := 1, constantValue := 0 }, { name := "hash", type := .int, accessFlags := 2, slot := 2, constantValue := 0 }, { name := "hashIsZero", type := .boolean, accessFlags := 2, slot := 3, constantValue := 0 }, { name := "serialVersionUID", type := .long, accessFlags := 26, slot := 0, constantValue := 0 }, { name := "COMPACT_STRINGS", type := .boolean, accessFlags := 24, slot := 1, constantValue := 0 }, { name := "serialPersistentFields", type := (.array (.object "java/io/ObjectStreamField")), accessFlags := 26, slot := 2, constantValue := 0 }, { name := "REPL", type := .char, accessFlags := 26, slot := 3, constantValue := 0 }, { name := "CASE_INSENSITIVE_ORDER", type := (.object "java/util/Comparator"), accessFlags := 25, slot := 4, constantValue := 0 }, { name := "LATIN1", type := .byte, accessFlags := 24, slot := 5, constantValue := 0 }, { name := "UTF16", type := .byte, accessFlags := 24, slot := 6, constantValue := 0 }]
  methods := #[k8m0]
  instanceTypes := #[(.array .byte), .byte, .int, .boolean]
  staticTypes := #[.long, .boolean, (.array (.object "java/io/ObjectStreamField")), .char, (.object "java/util/Comparator"), .byte, .byte]
  resolved := Array.replicate 1451 none
  statics := none }

def pool9 : Array CpInfo := pool [(8, .class_ 10), (1, u "java/lang/Iterable"), (24, .class_ 36), (0, u "java/lang/Object")] 25

/-- java/lang/Iterable -/
def k9 : Class := { plain "java/lang/Iterable" (some 0) with
  accessFlags := 1537
  interfaces := #[]
  cf := some (fileOf pool9 8 #[] #[] 1537 35 #[] #[])
  fields := #[]
  methods := #[]
  instanceTypes := #[]
  staticTypes := #[]
  resolved := Array.replicate 62 none
  statics := none }

def pool10 : Array CpInfo := pool [(10, .class_ 12), (1, u "java/util/Collection"), (47, .class_ 61), (0, u "java/lang/Object"), (0, .class_ 63), (0, u "java/lang/Iterable")] 51

/-- java/util/Collection -/
def k10 : Class := { plain "java/util/Collection" (some 0) with
  accessFlags := 1537
  interfaces := #[9]
  cf := some (fileOf pool10 10 #[] #[] 1537 60 #[62] #[])
  fields := #[]
  methods := #[]
  instanceTypes := #[]
  staticTypes := #[]
  resolved := Array.replicate 115 none
  statics := none }

def pool11 : Array CpInfo := pool [(1, .methodref 2 3), (0, .class_ 4), (0, .nameAndType 5 6), (0, u "java/lang/Object"), (0, u "<init>"), (0, u "()V"), (1, .class_ 10), (1, u "java/util/AbstractCollection"), (66, .class_ 78), (0, u "java/util/Collection")] 81

def k11c0 : Code := { maxStack := 1, maxLocals := 1, code := jdk_22_method_1_code, exceptionTable := #[], attributes := #[] }
def k11m0 : Method := { name := "<init>", desc := "()V", sig := { parameters := [], returnType := none }, accessFlags := 4, code := some k11c0 }
/-- java/util/AbstractCollection -/
def k11 : Class := { plain "java/util/AbstractCollection" (some 0) with
  accessFlags := 1057
  interfaces := #[10]
  cf := some (fileOf pool11 8 #[] #[{ accessFlags := 4, nameIndex := 5, descriptorIndex := 6, attributes := #[] }] 1057 2 #[77] #[])
  fields := #[]
  methods := #[k11m0]
  instanceTypes := #[]
  staticTypes := #[]
  resolved := Array.replicate 160 none
  statics := none }

def pool12 : Array CpInfo := pool [(26, .class_ 27), (0, u "java/lang/Object"), (5, .class_ 34), (0, u "java/util/Set"), (1, .class_ 38), (1, u "java/util/Collection")] 105

/-- java/util/Set -/
def k12 : Class := { plain "java/util/Set" (some 0) with
  accessFlags := 1537
  interfaces := #[10]
  cf := some (fileOf pool12 33 #[] #[] 1537 26 #[36] #[])
  fields := #[]
  methods := #[]
  instanceTypes := #[]
  staticTypes := #[]
  resolved := Array.replicate 144 none
  statics := none }

def pool13 : Array CpInfo := pool [(1, .methodref 2 3), (0, .class_ 4), (0, .nameAndType 5 6), (0, u "java/util/AbstractCollection"), (0, u "<init>"), (0, u "()V"), (0, .class_ 8), (0, u "java/util/Set"), (7, .class_ 17), (0, u "java/util/AbstractSet")] 78

def k13c0 : Code := { maxStack := 1, maxLocals := 1, code := jdk_91_method_1_code, exceptionTable := #[], attributes := #[] }
def k13m0 : Method := { name := "<init>", desc := "()V", sig := { parameters := [], returnType := none }, accessFlags := 4, code := some k13c0 }
/-- java/util/AbstractSet -/
def k13 : Class := { plain "java/util/AbstractSet" (some 11) with
  accessFlags := 1057
  interfaces := #[12]
  cf := some (fileOf pool13 16 #[] #[{ accessFlags := 4, nameIndex := 5, descriptorIndex := 6, attributes := #[] }] 1057 2 #[7] #[])
  fields := #[]
  methods := #[k13m0]
  instanceTypes := #[]
  staticTypes := #[]
  resolved := Array.replicate 96 none
  statics := none }

def pool14 : Array CpInfo := pool [(8, .class_ 10), (1, u "java/util/SequencedCollection"), (15, .class_ 27), (0, u "java/lang/Object"), (0, .class_ 29), (0, u "java/util/Collection")] 27

/-- java/util/SequencedCollection -/
def k14 : Class := { plain "java/util/SequencedCollection" (some 0) with
  accessFlags := 1537
  interfaces := #[10]
  cf := some (fileOf pool14 8 #[] #[] 1537 26 #[28] #[])
  fields := #[]
  methods := #[]
  instanceTypes := #[]
  staticTypes := #[]
  resolved := Array.replicate 57 none
  statics := none }

def pool15 : Array CpInfo := pool [(2, .class_ 4), (1, u "java/util/SequencedSet"), (2, .class_ 8), (0, u "java/lang/Object"), (0, .class_ 10), (0, u "java/util/SequencedCollection"), (0, .class_ 12), (0, u "java/util/Set")] 13

/-- java/util/SequencedSet -/
def k15 : Class := { plain "java/util/SequencedSet" (some 0) with
  accessFlags := 1537
  interfaces := #[14, 12]
  cf := some (fileOf pool15 2 #[] #[] 1537 7 #[9, 11] #[])
  fields := #[]
  methods := #[]
  instanceTypes := #[]
  staticTypes := #[]
  resolved := Array.replicate 26 none
  statics := none }

def pool16 : Array CpInfo := pool [(1, .class_ 2), (0, u "java/util/SortedSet$1"), (12, .class_ 17), (1, u "java/util/SortedSet"), (19, .class_ 38), (0, u "java/lang/Object"), (0, .class_ 40), (0, u "java/util/Set"), (0, .class_ 42), (0, u "java/util/SequencedSet")] 41

/-- java/util/SortedSet -/
def k16 : Class := { plain "java/util/SortedSet" (some 0) with
  accessFlags := 1537
  interfaces := #[12, 15]
  cf := some (fileOf pool16 15 #[.nestMembers #[1]] #[] 1537 37 #[39, 41] #[])
  fields := #[]
  methods := #[]
  instanceTypes := #[]
  staticTypes := #[]
  resolved := Array.replicate 84 none
  statics := none }

def pool17 : Array CpInfo := pool [(2, .class_ 4), (1, u "java/util/NavigableSet"), (22, .class_ 28), (0, u "java/lang/Object"), (0, .class_ 30), (0, u "java/util/SortedSet")] 40

/-- java/util/NavigableSet -/
def k17 : Class := { plain "java/util/NavigableSet" (some 0) with
  accessFlags := 1537
  interfaces := #[16]
  cf := some (fileOf pool17 2 #[] #[] 1537 27 #[29] #[])
  fields := #[]
  methods := #[]
  instanceTypes := #[]
  staticTypes := #[]
  resolved := Array.replicate 71 none
  statics := none }

def pool18 : Array CpInfo := pool [(1, .class_ 2), (0, u "java/lang/Cloneable"), (0, .class_ 4), (0, u "java/lang/Object")] 2

/-- java/lang/Cloneable -/
def k18 : Class := { plain "java/lang/Cloneable" (some 0) with
  accessFlags := 1537
  interfaces := #[]
  cf := some (fileOf pool18 1 #[] #[] 1537 3 #[] #[])
  fields := #[]
  methods := #[]
  instanceTypes := #[]
  staticTypes := #[]
  resolved := Array.replicate 7 none
  statics := none }

def pool19 : Array CpInfo := pool [(1, .methodref 2 3), (0, .class_ 4), (0, .nameAndType 5 6), (0, u "java/util/AbstractSet"), (0, u "<init>"), (0, u "()V"), (0, .fieldref 8 9), (0, .class_ 10), (0, .nameAndType 11 12), (0, u "java/util/TreeSet"), (0, u "m"), (0, u "Ljava/util/NavigableMap;"), (0, .class_ 14), (0, u "java/util/TreeMap"), (0, .methodref 13 3), (0, .methodref 8 17), (0, .nameAndType 5 18), (0, u "(Ljava/util/NavigableMap;)V"), (22, .class_ 43), (1, u "java/util/NavigableSet"), (23, u "PRESENT"), (0, u "Ljava/lang/Object;"), (148, .class_ 218), (0, u "java/lang/Cloneable"), (0, .class_ 220), (0, u "java/io/Serializable"), (2, u "serialVersionUID"), (0, u "J")] 92

def k19c0 : Code := { maxStack := 2, maxLocals := 2, code := jdk_2756_method_1_code, exceptionTable := #[], attributes := #[] }
def k19m0 : Method := { name := "<init>", desc := "(Ljava/util/NavigableMap;)V", sig := { parameters := [(.object "java/util/NavigableMap")], returnType := none }, accessFlags := 0, code := some k19c0 }
def k19c1 : Code := { maxStack := 3, maxLocals := 1, code := jdk_2756_method_2_code, exceptionTable := #[], attributes := #[] }
def k19m1 : Method := { name := "<init>", desc := "()V", sig := { parameters := [], returnType := none }, accessFlags := 1, code := some k19c1 }
/-- java/util/TreeSet -/
def k19 : Class := { plain "java/util/TreeSet" (some 13) with
  accessFlags := 33
  interfaces := #[17, 18, 3]
  cf := some (fileOf pool19 8 #[] #[{ accessFlags := 0, nameIndex := 5, descriptorIndex := 18, attributes := #[] }, { accessFlags := 1, nameIndex := 5, descriptorIndex := 6, attributes := #[] }] 33 2 #[41, 217, 219] #[{ accessFlags := 130, nameIndex := 11, descriptorIndex := 12, attributes := #[] }, { accessFlags := 26, nameIndex := 67, descriptorIndex := 68, attributes := #[] }, { accessFlags := 26, nameIndex := 223, descriptorIndex := 224, attributes := #[] }])
  fields := #[{ name := "m", type := (.object "java/util/NavigableMap"), accessFlags := 130, slot := 0, constantValue := 0 }, { name := "PRESENT", type := (.object "java/lang/Object"), accessFlags := 26, slot := 0, constantValue := 0 }, { name := "serialVersionUID", type := .long, accessFlags := 26, slot := 1, constantValue := 0 }]
  methods := #[k19m0, k19m1]
  instanceTypes := #[(.object "java/util/NavigableMap")]
  staticTypes := #[(.object "java/lang/Object"), .long]
  resolved := Array.replicate 317 none
  statics := none }

def pool20 : Array CpInfo := pool [(2, .class_ 4), (1, u "java/util/Map"), (31, .class_ 37), (0, u "java/util/Map$Entry"), (55, .class_ 94), (0, u "java/lang/Object")] 168

/-- java/util/Map -/
def k20 : Class := { plain "java/util/Map" (some 0) with
  accessFlags := 1537
  interfaces := #[]
  cf := some (fileOf pool20 2 #[.nestMembers #[36]] #[] 1537 93 #[] #[])
  fields := #[]
  methods := #[]
  instanceTypes := #[]
  staticTypes := #[]
  resolved := Array.replicate 263 none
  statics := none }

def pool21 : Array CpInfo := pool [(1, .methodref 2 3), (0, .class_ 4), (0, .nameAndType 5 6), (0, u "java/lang/Object"), (0, u "<init>"), (0, u "()V"), (1, .class_ 10), (1, u "java/util/AbstractMap"), (42, .class_ 54), (0, u "java/util/Map"), (9, u "keySet"), (0, u "Ljava/util/Set;"), (0, .class_ 67), (0, u "java/util/AbstractMap$1"), (5, u "values"), (0, u "Ljava/util/Collection;"), (0, .class_ 76), (0, u "java/util/AbstractMap$2"), (104, .class_ 182), (0, u "java/util/AbstractMap$ViewCollection"), (0, .class_ 184), (0, u "java/util/AbstractMap$SimpleImmutableEntry"), (0, .class_ 186), (0, u "java/util/AbstractMap$SimpleEntry"), (0, .class_ 188), (0, u "java/util/AbstractMap$2$1"), (0, .class_ 190), (0, u "java/util/AbstractMap$1$1")] 5

def k21c0 : Code := { maxStack := 1, maxLocals := 1, code := jdk_71_method_1_code, exceptionTable := #[], attributes := #[] }
def k21m0 : Method := { name := "<init>", desc := "()V", sig := { parameters := [], returnType := none }, accessFlags := 4, code := some k21c0 }
/-- java/util/AbstractMap -/
def k21 : Class := { plain "java/util/AbstractMap" (some 0) with
  accessFlags := 1057
  interfaces := #[20]
  cf := some (fileOf pool21 8 #[.nestMembers #[181, 183, 185, 75, 187, 66, 189]] #[{ accessFlags := 4, nameIndex := 5, descriptorIndex := 6, attributes := #[] }] 1057 2 #[53] #[{ accessFlags := 128, nameIndex := 64, descriptorIndex := 65, attributes := #[] }, { accessFlags := 128, nameIndex := 73, descriptorIndex := 74, attributes := #[] }])
  fields := #[{ name := "keySet", type := (.object "java/util/Set"), accessFlags := 128, slot := 0, constantValue := 0 }, { name := "values", type := (.object "java/util/Collection"), accessFlags := 128, slot := 1, constantValue := 0 }]
  methods := #[k21m0]
  instanceTypes := #[(.object "java/util/Set"), (.object "java/util/Collection")]
  staticTypes := #[]
  resolved := Array.replicate 196 none
  statics := none }

def pool22 : Array CpInfo := pool [(2, .class_ 4), (1, u "java/util/SequencedMap"), (38, .class_ 44), (0, u "java/util/SequencedMap$1SeqKeySet"), (3, .class_ 49), (0, u "java/util/SequencedMap$1SeqValues"), (1, .class_ 52), (0, u "java/util/SequencedMap$1SeqEntrySet"), (1, .class_ 55), (0, u "java/lang/Object"), (0, .class_ 57), (0, u "java/util/Map")] 48

/-- java/util/SequencedMap -/
def k22 : Class := { plain "java/util/SequencedMap" (some 0) with
  accessFlags := 1537
  interfaces := #[20]
  cf := some (fileOf pool22 2 #[.nestMembers #[51, 48, 43]] #[] 1537 54 #[56] #[])
  fields := #[]
  methods := #[]
  instanceTypes := #[]
  staticTypes := #[]
  resolved := Array.replicate 106 none
  statics := none }

def pool23 : Array CpInfo := pool [(14, .class_ 16), (1, u "java/util/SortedMap"), (2, .class_ 20), (0, u "java/lang/Object"), (0, .class_ 22), (0, u "java/util/SequencedMap")] 50

/-- java/util/SortedMap -/
def k23 : Class := { plain "java/util/SortedMap" (some 0) with
  accessFlags := 1537
  interfaces := #[22]
  cf := some (fileOf pool23 14 #[] #[] 1537 19 #[21] #[])
  fields := #[]
  methods := #[]
  instanceTypes := #[]
  staticTypes := #[]
  resolved := Array.replicate 73 none
  statics := none }

def pool24 : Array CpInfo := pool [(2, .class_ 4), (1, u "java/util/NavigableMap"), (5, .class_ 11), (0, u "java/lang/Object"), (0, .class_ 13), (0, u "java/util/SortedMap")] 53

/-- java/util/NavigableMap -/
def k24 : Class := { plain "java/util/NavigableMap" (some 0) with
  accessFlags := 1537
  interfaces := #[23]
  cf := some (fileOf pool24 2 #[] #[] 1537 10 #[12] #[])
  fields := #[]
  methods := #[]
  instanceTypes := #[]
  staticTypes := #[]
  resolved := Array.replicate 67 none
  statics := none }

def pool25 : Array CpInfo := pool [(1, .methodref 2 3), (0, .class_ 4), (0, .nameAndType 5 6), (0, u "java/util/AbstractMap"), (0, u "<init>"), (0, u "()V"), (0, .fieldref 8 9), (0, .class_ 10), (0, .nameAndType 11 12), (0, u "java/util/TreeMap"), (0, u "size"), (0, u "I"), (0, .fieldref 8 14), (0, .nameAndType 15 12), (0, u "modCount"), (0, .fieldref 8 17), (0, .nameAndType 18 19), (0, u "comparator"), (0, u "Ljava/util/Comparator;"), (14, u "entrySet"), (24, .class_ 61), (1, u "java/util/TreeMap$Entry"), (1, u "Ljava/lang/Object;"), (39, u "root"), (0, u "Ljava/util/TreeMap$Entry;"), (85, u "Ljava/util/TreeMap$EntrySet;"), (2, u "navigableKeySet"), (0, u "Ljava/util/TreeMap$KeySet;"), (2, u "descendingMap"), (0, u "Ljava/util/NavigableMap;"), (23, .class_ 223), (0, u "java/util/TreeMap$KeySet"), (7, .class_ 232), (0, u "java/util/NavigableMap"), (4, .class_ 238), (0, u "java/util/TreeMap$Values"), (3, .class_ 243), (0, u "java/util/TreeMap$EntrySet"), (1, .class_ 246), (0, u "java/util/TreeMap$DescendingSubMap"), (3, .class_ 251), (0, u "java/util/TreeMap$AscendingSubMap"), (17, .class_ 270), (0, u "java/util/TreeMap$KeyIterator"), (3, .class_ 275), (0, u "java/util/TreeMap$DescendingKeyIterator"), (17, u "Z"), (94, .class_ 389), (0, u "java/util/TreeMap$NavigableSubMap"), (1, .class_ 392), (0, u "java/util/TreeMap$KeySpliterator"), (3, .class_ 397), (0, u "java/util/TreeMap$DescendingKeySpliterator"), (4, u "UNBOUNDED"), (0, .class_ 404), (0, u "java/lang/Cloneable"), (0, .class_ 406), (0, u "java/io/Serializable"), (6, u "RED"), (2, u "BLACK"), (1, u "serialVersionUID"), (0, u "J"), (214, .class_ 635), (0, u "java/util/TreeMap$EntrySpliterator"), (0, .class_ 637), (0, u "java/util/TreeMap$ValueSpliterator"), (0, .class_ 639), (0, u "java/util/TreeMap$TreeMapSpliterator"), (0, .class_ 641), (0, u "java/util/TreeMap$SubMap"), (0, .class_ 643), (0, u "java/util/TreeMap$DescendingSubMap$DescendingEntrySetView"), (0, .class_ 645), (0, u "java/util/TreeMap$AscendingSubMap$AscendingEntrySetView"), (0, .class_ 647), (0, u "java/util/TreeMap$NavigableSubMap$DescendingSubMapKeyIterator"), (0, .class_ 649), (0, u "java/util/TreeMap$NavigableSubMap$SubMapKeyIterator"), (0, .class_ 651), (0, u "java/util/TreeMap$NavigableSubMap$DescendingSubMapEntryIterator"), (0, .class_ 653), (0, u "java/util/TreeMap$NavigableSubMap$SubMapEntryIterator"), (0, .class_ 655), (0, u "java/util/TreeMap$NavigableSubMap$SubMapIterator"), (0, .class_ 657), (0, u "java/util/TreeMap$NavigableSubMap$EntrySetView"), (0, .class_ 659), (0, u "java/util/TreeMap$ValueIterator"), (0, .class_ 661), (0, u "java/util/TreeMap$EntryIterator"), (0, .class_ 663), (0, u "java/util/TreeMap$PrivateEntryIterator")] 28

def k25c0 : Code := { maxStack := 2, maxLocals := 1, code := jdk_2729_method_1_code, exceptionTable := #[], attributes := #[] }
def k25m0 : Method := { name := "<init>", desc := "()V", sig := { parameters := [], returnType := none }, accessFlags := 1, code := some k25c0 }
/-- java/util/TreeMap -/
def k25 : Class := { plain "java/util/TreeMap" (some 21) with
  accessFlags := 33
  interfaces := #[24, 18, 3]
  cf := some (fileOf pool25 8 #[.nestMembers #[634, 636, 396, 391, 638, 59, 640, 245, 642, 250, 644, 388, 646, 648, 650, 652, 654, 656, 274, 269, 658, 660, 662, 222, 242, 237]] #[{ accessFlags := 1, nameIndex := 5, descriptorIndex := 6, attributes := #[] }] 33 2 #[231, 403, 405] #[{ accessFlags := 18, nameIndex := 18, descriptorIndex := 19, attributes := #[] }, { accessFlags := 130, nameIndex := 103, descriptorIndex := 104, attributes := #[] }, { accessFlags := 130, nameIndex := 11, descriptorIndex := 12, attributes := #[] }, { accessFlags := 130, nameIndex := 15, descriptorIndex := 12, attributes := #[] }, { accessFlags := 130, nameIndex := 34, descriptorIndex := 190, attributes := #[] }, { accessFlags := 130, nameIndex := 193, descriptorIndex := 194, attributes := #[] }, { accessFlags := 130, nameIndex := 197, descriptorIndex := 198, attributes := #[] }, { accessFlags := 26, nameIndex := 402, descriptorIndex := 63, attributes := #[] }, { accessFlags := 26, nameIndex := 413, descriptorIndex := 293, attributes := #[] }, { accessFlags := 26, nameIndex := 416, descriptorIndex := 293, attributes := #[] }, { accessFlags := 26, nameIndex := 418, descriptorIndex := 419, attributes := #[] }])
  fields := #[{ name := "comparator", type := (.object "java/util/Comparator"), accessFlags := 18, slot := 2, constantValue := 0 }, { name := "root", type := (.object "java/util/TreeMap$Entry"), accessFlags := 130, slot := 3, constantValue := 0 }, { name := "size", type := .int, accessFlags := 130, slot := 4, constantValue := 0 }, { name := "modCount", type := .int, accessFlags := 130, slot := 5, constantValue := 0 }, { name := "entrySet", type := (.object "java/util/TreeMap$EntrySet"), accessFlags := 130, slot := 6, constantValue := 0 }, { name := "navigableKeySet", type := (.object "java/util/TreeMap$KeySet"), accessFlags := 130, slot := 7, constantValue := 0 }, { name := "descendingMap", type := (.object "java/util/NavigableMap"), accessFlags := 130, slot := 8, constantValue := 0 }, { name := "UNBOUNDED", type := (.object "java/lang/Object"), accessFlags := 26, slot := 0, constantValue := 0 }, { name := "RED", type := .boolean, accessFlags := 26, slot := 1, constantValue := 0 }, { name := "BLACK", type := .boolean, accessFlags := 26, slot := 2, constantValue := 0 }, { name := "serialVersionUID", type := .long, accessFlags := 26, slot := 3, constantValue := 0 }]
  methods := #[k25m0]
  instanceTypes := #[(.object "java/util/Set"), (.object "java/util/Collection"), (.object "java/util/Comparator"), (.object "java/util/TreeMap$Entry"), .int, .int, (.object "java/util/TreeMap$EntrySet"), (.object "java/util/TreeMap$KeySet"), (.object "java/util/NavigableMap")]
  staticTypes := #[(.object "java/lang/Object"), .boolean, .boolean, .long]
  resolved := Array.replicate 692 none
  statics := none }

/-- the primitive byte -/
def k26 : Class := { plain "byte" none with kind := .primitive 'B', accessFlags := 0x411 }
/-- [B -/
def k27 : Class := { plain "[B" (some 0) with kind := .array 26 .byte, interfaces := #[18, 3], accessFlags := 1041 }

/-- the primitive char -/
def k28 : Class := { plain "char" none with kind := .primitive 'C', accessFlags := 0x411 }
/-- [C -/
def k29 : Class := { plain "[C" (some 0) with kind := .array 28 .char, interfaces := #[18, 3], accessFlags := 1041 }

/-- the primitive int -/
def k30 : Class := { plain "int" none with kind := .primitive 'I', accessFlags := 0x411 }
/-- [I -/
def k31 : Class := { plain "[I" (some 0) with kind := .array 30 .int, interfaces := #[18, 3], accessFlags := 1041 }

def heap : Heap := #[]
def classes : Array Class := #[k0, k1, k2, k3, k4, k5, k6, k7, k8, k9, k10, k11, k12, k13, k14, k15, k16, k17, k18, k19, k20, k21, k22, k23, k24, k25, k26, k27, k28, k29, k30, k31]
def interned : List (Array UInt16 × Addr) := []
def slotsUsed : Nat := 0
def theMethod : MethodId := ⟨1, 1⟩
def args0 : Array Value := #[.int 5, .long 5, .int 9, .int 1, .int 2, .int 3]
def aboutOver (below : List Frame) : State where
  vm := { classes := classes, interned := interned.toArray }
  heap := heap
  slotsUsed := slotsUsed
  threads := #[{ frames := .invoking theMethod args0 :: below }]
def below0 : List Frame := [.native { method := ⟨0, 0⟩, args := #[] }]
def about1 : State := aboutOver below0
def p0 : Program := .bare "" "" ""
def e0 : Env := launch0.env 0 0 0
theorem w_frames : about1.frames = Frame.invoking theMethod args0 :: below0 := rfl
set_option maxRecDepth 65536 in
theorem w_args : argsFit about1.vm theMethod args0 = true := by decide +kernel
set_option maxRecDepth 65536 in
theorem w_heap : heapFits about1 = true := by decide +kernel
set_option maxRecDepth 65536 in
theorem w_runnable : about1.curStatus? = some .runnable := by decide +kernel
set_option maxRecDepth 65536 in
theorem w_alone : about1.alone = true := by decide +kernel
set_option maxRecDepth 65536 in
theorem w_named : about1.methodNamed? x = some theMethod := by decide +kernel
set_option maxRecDepth 65536 in
theorem w_hears : about1.hears theMethod below0 = true := by decide +kernel
set_option maxRecDepth 65536 in
theorem w_ripe : about1.ripe theMethod args0 below0 = true := by decide +kernel
theorem w_running : about1.status = .running := rfl
set_option maxRecDepth 65536 in
theorem w_room : about1.hasRoom e0.platform room_1 = true :=
  launch0.hasRoom_least _ room_1 (by decide +kernel) (by decide +kernel) (by decide +kernel) (by decide +kernel) (by decide +kernel) (by decide +kernel)
theorem allAtoms_all (ts : List Jvm.Cond) (a : Array Jvm.Value) (st : Jvm.State) : (allAtoms ts).before a st = ts.all (fun c => c.before a st) := by
  induction ts with
  | nil => rfl
  | cons c t ih =>
    show (Jvm.Cond.and c (allAtoms t)).before a st = _
    rw [Jvm.Cond.before_and, ih, List.all_cons]
def words1 : List Jvm.Cond := Jvm.Cond.code x code maxLocals ret :: tables_1
/-- a 'code' word, met by the world's own term for the bytes: nothing is compared byte by byte -/
theorem code_word {y : MethodName} {bytes : ByteArray} {mx : Nat} {rt : Option FieldType} {a : Array Value} {s : State} {m : MethodId} {meth : Method} {c : Code} (h1 : s.methodNamed? y = some m) (h2 : s.vm.method? m = some meth) (h3 : meth.code = some c) (h4 : c.code = bytes)
    (h5 : (c.maxLocals == mx && c.exceptionTable.isEmpty && decide (c.maxStack ≤ mostOperands) && decide (meth.sig.returnType = rt) && !meth.locks && decide (parseMethodDescriptor y.desc = some meth.sig)) = true) : (Jvm.Cond.code y bytes mx rt).before a s = true := by
  simp only [Bool.and_eq_true, beq_iff_eq, Bool.not_eq_true', decide_eq_true_eq] at h5
  obtain ⟨⟨⟨⟨⟨g1, g2⟩, g3⟩, g4⟩, g5⟩, g6⟩ := h5
  simp [Cond.before, Cond.holds, Cond.value, h1, h2, h3, h4, g1, g2, g3, g4, g5, g6]
def isCode : Jvm.Cond → Bool
  | .code _ _ _ _ => true
  | _ => false
theorem all_split {L : List Jvm.Cond} {P : Jvm.Cond → Bool} (h1 : L.all (fun c => isCode c || P c) = true) (h2 : ∀ c ∈ L.filter isCode, P c = true) : L.all P = true := by
  refine List.all_eq_true.mpr fun c hc => ?_
  have h := List.all_eq_true.mp h1 c hc
  rcases Bool.eq_false_or_eq_true (isCode c) with hi | hi
  · exact h2 c (List.mem_filter.mpr ⟨hc, hi⟩)
  · simpa [hi] using h
set_option maxRecDepth 65536 in
theorem w_c0 : (Jvm.Cond.code x code maxLocals ret).before args0 about1 = true := code_word (m := ⟨1, 1⟩) (meth := k1m1) (c := k1c1) (by decide +kernel) rfl rfl rfl (by decide +kernel)
set_option maxRecDepth 65536 in
theorem w_c1 : (Jvm.Cond.code ({ cls := "com/example/gate2/gate2/xml/XmlCursorLineAtPinLaw", name := "pick", desc := "(IIJ)C" } : Jvm.MethodName) method_3_code (4 : Nat) (Option.some Jvm.ClassFile.FieldType.char)).before args0 about1 = true := code_word (m := ⟨1, 2⟩) (meth := k1m2) (c := k1c2) (by decide +kernel) rfl rfl rfl (by decide +kernel)
set_option maxRecDepth 65536 in
theorem w_c2 : (Jvm.Cond.code ({ cls := "com/example/gate2/gate2/xml/XmlCursor", name := "<init>", desc := "([CLcom/example/gate2/gate2/BeansException;Ljava/lang/String;)V" } : Jvm.MethodName) prog_57_method_1_code (4 : Nat) (Option.none : Option Jvm.ClassFile.FieldType)).before args0 about1 = true := code_word (m := ⟨2, 0⟩) (meth := k2m0) (c := k2c0) (by decide +kernel) rfl rfl rfl (by decide +kernel)
set_option maxRecDepth 65536 in
theorem w_c3 : (Jvm.Cond.code ({ cls := "java/lang/Object", name := "<init>", desc := "()V" } : Jvm.MethodName) object_method_1_code (1 : Nat) (Option.none : Option Jvm.ClassFile.FieldType)).before args0 about1 = true := code_word (m := ⟨0, 0⟩) (meth := k0m0) (c := k0c0) (by decide +kernel) rfl rfl rfl (by decide +kernel)
set_option maxRecDepth 65536 in
theorem w_c4 : (Jvm.Cond.code ({ cls := "java/util/TreeSet", name := "<init>", desc := "()V" } : Jvm.MethodName) jdk_2756_method_2_code (1 : Nat) (Option.none : Option Jvm.ClassFile.FieldType)).before args0 about1 = true := code_word (m := ⟨19, 1⟩) (meth := k19m1) (c := k19c1) (by decide +kernel) rfl rfl rfl (by decide +kernel)
set_option maxRecDepth 65536 in
theorem w_c5 : (Jvm.Cond.code ({ cls := "java/util/TreeMap", name := "<init>", desc := "()V" } : Jvm.MethodName) jdk_2729_method_1_code (1 : Nat) (Option.none : Option Jvm.ClassFile.FieldType)).before args0 about1 = true := code_word (m := ⟨25, 0⟩) (meth := k25m0) (c := k25c0) (by decide +kernel) rfl rfl rfl (by decide +kernel)
set_option maxRecDepth 65536 in
theorem w_c6 : (Jvm.Cond.code ({ cls := "java/util/AbstractMap", name := "<init>", desc := "()V" } : Jvm.MethodName) jdk_71_method_1_code (1 : Nat) (Option.none : Option Jvm.ClassFile.FieldType)).before args0 about1 = true := code_word (m := ⟨21, 0⟩) (meth := k21m0) (c := k21c0) (by decide +kernel) rfl rfl rfl (by decide +kernel)
set_option maxRecDepth 65536 in
theorem w_c7 : (Jvm.Cond.code ({ cls := "java/util/TreeSet", name := "<init>", desc := "(Ljava/util/NavigableMap;)V" } : Jvm.MethodName) jdk_2756_method_1_code (2 : Nat) (Option.none : Option Jvm.ClassFile.FieldType)).before args0 about1 = true := code_word (m := ⟨19, 0⟩) (meth := k19m0) (c := k19c0) (by decide +kernel) rfl rfl rfl (by decide +kernel)
set_option maxRecDepth 65536 in
theorem w_c8 : (Jvm.Cond.code ({ cls := "java/util/AbstractSet", name := "<init>", desc := "()V" } : Jvm.MethodName) jdk_91_method_1_code (1 : Nat) (Option.none : Option Jvm.ClassFile.FieldType)).before args0 about1 = true := code_word (m := ⟨13, 0⟩) (meth := k13m0) (c := k13c0) (by decide +kernel) rfl rfl rfl (by decide +kernel)
set_option maxRecDepth 65536 in
theorem w_c9 : (Jvm.Cond.code ({ cls := "java/util/AbstractCollection", name := "<init>", desc := "()V" } : Jvm.MethodName) jdk_22_method_1_code (1 : Nat) (Option.none : Option Jvm.ClassFile.FieldType)).before args0 about1 = true := code_word (m := ⟨11, 0⟩) (meth := k11m0) (c := k11c0) (by decide +kernel) rfl rfl rfl (by decide +kernel)
set_option maxRecDepth 65536 in
theorem w_c10 : (Jvm.Cond.code ({ cls := "com/example/gate2/gate2/xml/XmlCursor", name := "lineAt", desc := "(I)I" } : Jvm.MethodName) prog_57_method_36_code (2 : Nat) (Option.some Jvm.ClassFile.FieldType.int)).before args0 about1 = true := code_word (m := ⟨2, 1⟩) (meth := k2m1) (c := k2c1) (by decide +kernel) rfl rfl rfl (by decide +kernel)
set_option maxRecDepth 65536 in
theorem w_c11 : (Jvm.Cond.code ({ cls := "com/example/gate2/gate2/xml/XmlCursorLineAtPinLaw", name := "lines", desc := "([CI)I" } : Jvm.MethodName) method_4_code (3 : Nat) (Option.some Jvm.ClassFile.FieldType.int)).before args0 about1 = true := code_word (m := ⟨1, 3⟩) (meth := k1m3) (c := k1c3) (by decide +kernel) rfl rfl rfl (by decide +kernel)
def codes1 : List Jvm.Cond := [Jvm.Cond.code x code maxLocals ret, Jvm.Cond.code ({ cls := "com/example/gate2/gate2/xml/XmlCursorLineAtPinLaw", name := "pick", desc := "(IIJ)C" } : Jvm.MethodName) method_3_code (4 : Nat) (Option.some Jvm.ClassFile.FieldType.char), Jvm.Cond.code ({ cls := "com/example/gate2/gate2/xml/XmlCursor", name := "<init>", desc := "([CLcom/example/gate2/gate2/BeansException;Ljava/lang/String;)V" } : Jvm.MethodName) prog_57_method_1_code (4 : Nat) (Option.none : Option Jvm.ClassFile.FieldType), Jvm.Cond.code ({ cls := "java/lang/Object", name := "<init>", desc := "()V" } : Jvm.MethodName) object_method_1_code (1 : Nat) (Option.none : Option Jvm.ClassFile.FieldType), Jvm.Cond.code ({ cls := "java/util/TreeSet", name := "<init>", desc := "()V" } : Jvm.MethodName) jdk_2756_method_2_code (1 : Nat) (Option.none : Option Jvm.ClassFile.FieldType), Jvm.Cond.code ({ cls := "java/util/TreeMap", name := "<init>", desc := "()V" } : Jvm.MethodName) jdk_2729_method_1_code (1 : Nat) (Option.none : Option Jvm.ClassFile.FieldType), Jvm.Cond.code ({ cls := "java/util/AbstractMap", name := "<init>", desc := "()V" } : Jvm.MethodName) jdk_71_method_1_code (1 : Nat) (Option.none : Option Jvm.ClassFile.FieldType), Jvm.Cond.code ({ cls := "java/util/TreeSet", name := "<init>", desc := "(Ljava/util/NavigableMap;)V" } : Jvm.MethodName) jdk_2756_method_1_code (2 : Nat) (Option.none : Option Jvm.ClassFile.FieldType), Jvm.Cond.code ({ cls := "java/util/AbstractSet", name := "<init>", desc := "()V" } : Jvm.MethodName) jdk_91_method_1_code (1 : Nat) (Option.none : Option Jvm.ClassFile.FieldType), Jvm.Cond.code ({ cls := "java/util/AbstractCollection", name := "<init>", desc := "()V" } : Jvm.MethodName) jdk_22_method_1_code (1 : Nat) (Option.none : Option Jvm.ClassFile.FieldType), Jvm.Cond.code ({ cls := "com/example/gate2/gate2/xml/XmlCursor", name := "lineAt", desc := "(I)I" } : Jvm.MethodName) prog_57_method_36_code (2 : Nat) (Option.some Jvm.ClassFile.FieldType.int), Jvm.Cond.code ({ cls := "com/example/gate2/gate2/xml/XmlCursorLineAtPinLaw", name := "lines", desc := "([CI)I" } : Jvm.MethodName) method_4_code (3 : Nat) (Option.some Jvm.ClassFile.FieldType.int)]
set_option maxRecDepth 65536 in
theorem codes_eq : words1.filter isCode = codes1 := rfl
theorem w_codes : ∀ c ∈ words1.filter isCode, c.before args0 about1 = true := by
  rw [codes_eq]
  intro c hc
  simp only [codes1, List.mem_cons, List.not_mem_nil, or_false] at hc
  rcases hc with rfl | rfl | rfl | rfl | rfl | rfl | rfl | rfl | rfl | rfl | rfl | rfl
  · exact w_c0
  · exact w_c1
  · exact w_c2
  · exact w_c3
  · exact w_c4
  · exact w_c5
  · exact w_c6
  · exact w_c7
  · exact w_c8
  · exact w_c9
  · exact w_c10
  · exact w_c11
set_option maxRecDepth 65536 in
theorem w_t1 : (words1.take 24).all (fun c => isCode c || c.before args0 about1) = true := by decide +kernel
set_option maxRecDepth 65536 in
theorem w_t2 : ((words1.drop 24).take 24).all (fun c => isCode c || c.before args0 about1) = true := by decide +kernel
set_option maxRecDepth 65536 in
theorem w_t3 : (((words1.drop 24).drop 24).take 24).all (fun c => isCode c || c.before args0 about1) = true := by decide +kernel
set_option maxRecDepth 65536 in
theorem w_t4 : (((words1.drop 24).drop 24).drop 24).all (fun c => isCode c || c.before args0 about1) = true := by decide +kernel
theorem w_tables : (allAtoms (Jvm.Cond.code x code maxLocals ret :: tables_1)).before args0 about1 = true := by
  rw [allAtoms_all]
  show words1.all (fun c => c.before args0 about1) = true
  refine all_split ?_ w_codes
  rw [← List.take_append_drop 24 words1, List.all_append, w_t1, ← List.take_append_drop 24 (words1.drop 24), List.all_append, w_t2, ← List.take_append_drop 24 ((words1.drop 24).drop 24), List.all_append, w_t3, w_t4]
  rfl
set_option maxRecDepth 65536 in
theorem w_case : (Jvm.Cond.and given_1 narrow_1).before args0 about1 = true := by decide +kernel
theorem w_applies : (headSpec (Jvm.Cond.code x code maxLocals ret :: tables_1) room_1).applies x e0.platform about1 = true :=
  (Spec.applies_iff w_frames).mpr ⟨w_running, w_runnable, w_alone, w_named, w_hears, w_ripe, w_room, w_tables⟩
theorem atStart : AtStart classFile x code maxLocals ret World_1 tables_1 room_1 Calls_1 rest_1 Pre_1 launch0 p0 e0 about1 theMethod args0 below0 :=
  ⟨lists_1, trivial, launch0.admits_env _ _ _, launch0.least_env, fairChoices_fair.cas, fairChoices_fair.clock, w_frames, w_args, w_heap, w_applies, trivial, trivial, w_case⟩
end start1
theorem witness_1 : WitnessClaimed_1 := ⟨start1.p0, start1.e0, start1.about1, start1.theMethod, start1.args0, start1.below0, start1.atStart⟩
end Jvm.Pilot.@@N@@
