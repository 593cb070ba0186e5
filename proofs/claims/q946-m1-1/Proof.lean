import JvmDerived
import JvmDerived.Pilot.@@N@@Statement
import JvmDerived.Pilot.@@N@@Code
set_option linter.unusedVariables false
set_option linter.unusedSimpArgs false
namespace Jvm.Pilot.@@N@@
open Jvm Jvm.ClassFile Sem Op Lib Jvm.Free Jvm.Stand Jvm.LawKit Jvm.RoadKit Bundle Jvm.Pilot.@@N@@.Jvm.D
/-- from the frame (pc, ls, st) over the heap h the goal G is reached -/
def Run (p : Program) (l : Launch) (e : Env) (R : Room) (s : State) (m : MethodId) (args : Array Value) (below : List Frame) (meth : Method) (c : Code) (Z : State) (own : String) (V : Vm → Nat → Prop) (n0 : Nat) (G : State → Outcome → Prop) (h : Heap) (cells slots pc : Nat) (ls : Array Slot) (st : List Value) : Prop :=
  ∀ (vm0 : Vm) (k0 : Nat) (T : State) (L : List Loc), Stand p l e R (s.setVm vm0) m args below meth c T L cells slots → V vm0 k0 → k0 ≤ h.size → Z.Warmed39 vm0 → vm0.findClass own = some m.cls → Fr n0 L → T.heap = h →
    ∃ U o, Steps p.tables e below (T.setTop (mkF m pc ls st)) U ∧ U.status = .running ∧ Ended U below o ∧ G U o
/-- what is known of the body -/
def Cx (p : Program) (c : Code) (meth : Method) (bytes : ByteArray) (maxL : Nat) (ret : Option FieldType) (nm : String) : Prop := p.tables.exec = Jvm.exec ∧ c.code = bytes ∧ c.maxLocals = maxL ∧ meth.sig.returnType = ret ∧ meth.locks = false ∧ meth.name = nm
def plainV (s : State) (vm : Vm) (_ : Nat) : Prop := vm = s.vm
def Gq (s : State) (n0 : Nat) (rm : Room) (P : Option Value → Heap → Prop) (U : State) (o : Outcome) : Prop := ∃ v L, o = .returned v ∧ (P v U.heap ∧ Fr n0 L) ∧ FrameEnd s o U L rm.cells rm.slots
/-- a contract -/
def Con (l : Launch) (Z : State) (y : MethodName) (bytes : ByteArray) (maxL : Nat) (ret : Option FieldType) (rm : Room) (as : Array Value) (h0 : Heap) (n0 : Nat) (P : Option Value → Heap → Prop) : Prop :=
  ∀ ws : List Jvm.Cond, MetFree l y (head1 (Jvm.Cond.code y bytes maxL ret :: ws) rm) (fun a U => a = as ∧ Z.Warmed39 U.vm ∧ U.heap = h0) (fun _ _ _ _ _ => True) (fun _ U o U' => Gq U n0 rm P U' o)
section Kit
variable {p : Program} {l : Launch} {e : Env} {R : Room} {s : State} {m : MethodId} {args : Array Value} {below : List Frame} {meth : Method} {c : Code} {Z : State} {own : String} {V : Vm → Nat → Prop} {n0 : Nat} {G : State → Outcome → Prop} {h : Heap} {cells slots pc pc' : Nat} {ls ls' : Array Slot} {st st' : List Value} {bytes : ByteArray} {maxL : Nat} {ret : Option FieldType} {nm : String} {a0 : Array Value}
theorem Con.of_body {y : MethodName} {rm : Room} {as : Array Value} {h0 : Heap} {P : Option Value → Heap → Prop} (hp : plainFor y = true) (Ls : Array Slot) (hent : ∀ m, entryFrame m as maxL = mkF m 0 Ls [])
    (body : ∀ p e s m below meth c, Cx p c meth bytes maxL ret y.name → Run p l e rm s m as below meth c Z y.cls (plainV s) n0 (Gq s n0 rm P) h0 0 0 0 Ls []) : Con l Z y bytes maxL ret rm as h0 n0 P := by
  intro ws
  refine MetFree.of_bodySF hp hisR ?_
  intro p e s m args below meth c s₁ Bd hml0 hP hK
  obtain ⟨rfl, hZ, hh⟩ := hP
  have hown : s.vm.findClass y.cls = some m.cls := findClass_of_methodNamed Bd.named
  have hnm := (name_of_methodNamed Bd.named Bd.method).1
  obtain ⟨U, o, h1, h2, h3, h4⟩ := body p e s m below meth c ⟨Bd.exec, Bd.bytes, hml0, Bd.returns, BodyLoose.notSynchronized Bd, hnm⟩ s.vm 0 s₁ [] (Stand.of_body Bd) rfl (Nat.zero_le _) hZ hown (Fr.nil n0) (by rw [← hh, Bd.state]; rfl)
  exact ⟨U, o, castTop (hent m) h1, h2, h3, h4⟩
theorem Run.go (hs : ∀ (T t : State), At T m c below → Steps p.tables e below (T.setTop (mkF m pc' ls' st')) t → Steps p.tables e below (T.setTop (mkF m pc ls st)) t) (k : Run p l e R s m args below meth c Z own V n0 G h cells slots pc' ls' st') : Run p l e R s m args below meth c Z own V n0 G h cells slots pc ls st :=
  fun vm0 k0 T L X hV hk hZ ho N eT => by
    obtain ⟨U, o, h1, r⟩ := k vm0 k0 T L X hV hk hZ ho N eT
    exact ⟨U, o, hs T U X.here h1, r⟩
theorem r_iadd {x y z : Int32} (C : Cx p c meth bytes maxL ret nm) (hd : decode bytes pc = .ok (.iadd, 1)) (hp : pc + 1 = pc') (hz : x + y = z) (k : Run p l e R s m args below meth c Z own V n0 G h cells slots pc' ls (.int z :: st)) : Run p l e R s m args below meth c Z own V n0 G h cells slots pc ls (.int y :: .int x :: st) := by
  subst hp hz
  exact k.go fun T t A q => XS.iadd (g := mkF m pc ls (.int y :: .int x :: st)) A C.1 rfl (hb C.2.1 hd) rfl q
theorem r_isub {x y z : Int32} (C : Cx p c meth bytes maxL ret nm) (hd : decode bytes pc = .ok (.isub, 1)) (hp : pc + 1 = pc') (hz : x - y = z) (k : Run p l e R s m args below meth c Z own V n0 G h cells slots pc' ls (.int z :: st)) : Run p l e R s m args below meth c Z own V n0 G h cells slots pc ls (.int y :: .int x :: st) := by
  subst hp hz
  exact k.go fun T t A q => XS.isub (g := mkF m pc ls (.int y :: .int x :: st)) A C.1 rfl (hb C.2.1 hd) rfl q
theorem r_imul {x y z : Int32} (C : Cx p c meth bytes maxL ret nm) (hd : decode bytes pc = .ok (.imul, 1)) (hp : pc + 1 = pc') (hz : x * y = z) (k : Run p l e R s m args below meth c Z own V n0 G h cells slots pc' ls (.int z :: st)) : Run p l e R s m args below meth c Z own V n0 G h cells slots pc ls (.int y :: .int x :: st) := by
  subst hp hz
  exact k.go fun T t A q => XS.imul (g := mkF m pc ls (.int y :: .int x :: st)) A C.1 rfl (hb C.2.1 hd) rfl q
theorem r_iand {x y z : Int32} (C : Cx p c meth bytes maxL ret nm) (hd : decode bytes pc = .ok (.iand, 1)) (hp : pc + 1 = pc') (hz : x &&& y = z) (k : Run p l e R s m args below meth c Z own V n0 G h cells slots pc' ls (.int z :: st)) : Run p l e R s m args below meth c Z own V n0 G h cells slots pc ls (.int y :: .int x :: st) := by
  subst hp hz
  exact k.go fun T t A q => XS.iand (g := mkF m pc ls (.int y :: .int x :: st)) A C.1 rfl (hb C.2.1 hd) rfl q
theorem r_ixor {x y z : Int32} (C : Cx p c meth bytes maxL ret nm) (hd : decode bytes pc = .ok (.ixor, 1)) (hp : pc + 1 = pc') (hz : x ^^^ y = z) (k : Run p l e R s m args below meth c Z own V n0 G h cells slots pc' ls (.int z :: st)) : Run p l e R s m args below meth c Z own V n0 G h cells slots pc ls (.int y :: .int x :: st) := by
  subst hp hz
  exact k.go fun T t A q => XT.ixor (g := mkF m pc ls (.int y :: .int x :: st)) A C.1 rfl (hb C.2.1 hd) rfl q
theorem r_ior {x y z : Int32} (C : Cx p c meth bytes maxL ret nm) (hd : decode bytes pc = .ok (.ior, 1)) (hp : pc + 1 = pc') (hz : x ||| y = z) (k : Run p l e R s m args below meth c Z own V n0 G h cells slots pc' ls (.int z :: st)) : Run p l e R s m args below meth c Z own V n0 G h cells slots pc ls (.int y :: .int x :: st) := by
  subst hp hz
  exact k.go fun T t A q => XT.ior (g := mkF m pc ls (.int y :: .int x :: st)) A C.1 rfl (hb C.2.1 hd) rfl q
theorem r_ishl {x y z : Int32} (C : Cx p c meth bytes maxL ret nm) (hd : decode bytes pc = .ok (.ishl, 1)) (hp : pc + 1 = pc') (hz : x <<< (y &&& 31) = z) (k : Run p l e R s m args below meth c Z own V n0 G h cells slots pc' ls (.int z :: st)) : Run p l e R s m args below meth c Z own V n0 G h cells slots pc ls (.int y :: .int x :: st) := by
  subst hp hz
  exact k.go fun T t A q => XT.ishl (g := mkF m pc ls (.int y :: .int x :: st)) A C.1 rfl (hb C.2.1 hd) rfl q
theorem r_ishr {x y z : Int32} (C : Cx p c meth bytes maxL ret nm) (hd : decode bytes pc = .ok (.ishr, 1)) (hp : pc + 1 = pc') (hz : x >>> (y &&& 31) = z) (k : Run p l e R s m args below meth c Z own V n0 G h cells slots pc' ls (.int z :: st)) : Run p l e R s m args below meth c Z own V n0 G h cells slots pc ls (.int y :: .int x :: st) := by
  subst hp hz
  exact k.go fun T t A q => XT.ishr (g := mkF m pc ls (.int y :: .int x :: st)) A C.1 rfl (hb C.2.1 hd) rfl q
theorem r_iushr {x y z : Int32} (C : Cx p c meth bytes maxL ret nm) (hd : decode bytes pc = .ok (.iushr, 1)) (hp : pc + 1 = pc') (hz : XT.ushr x y = z) (k : Run p l e R s m args below meth c Z own V n0 G h cells slots pc' ls (.int z :: st)) : Run p l e R s m args below meth c Z own V n0 G h cells slots pc ls (.int y :: .int x :: st) := by
  subst hp hz
  exact k.go fun T t A q => XT.iushr (g := mkF m pc ls (.int y :: .int x :: st)) A C.1 rfl (hb C.2.1 hd) rfl q
theorem r_ladd {x y z : Int64} (C : Cx p c meth bytes maxL ret nm) (hd : decode bytes pc = .ok (.ladd, 1)) (hp : pc + 1 = pc') (hz : x + y = z) (k : Run p l e R s m args below meth c Z own V n0 G h cells slots pc' ls (.long z :: st)) : Run p l e R s m args below meth c Z own V n0 G h cells slots pc ls (.long y :: .long x :: st) := by
  subst hp hz
  exact k.go fun T t A q => XT.ladd (g := mkF m pc ls (.long y :: .long x :: st)) A C.1 rfl (hb C.2.1 hd) rfl q
theorem r_lsub {x y z : Int64} (C : Cx p c meth bytes maxL ret nm) (hd : decode bytes pc = .ok (.lsub, 1)) (hp : pc + 1 = pc') (hz : x - y = z) (k : Run p l e R s m args below meth c Z own V n0 G h cells slots pc' ls (.long z :: st)) : Run p l e R s m args below meth c Z own V n0 G h cells slots pc ls (.long y :: .long x :: st) := by
  subst hp hz
  exact k.go fun T t A q => XT.lsub (g := mkF m pc ls (.long y :: .long x :: st)) A C.1 rfl (hb C.2.1 hd) rfl q
theorem r_lmul {x y z : Int64} (C : Cx p c meth bytes maxL ret nm) (hd : decode bytes pc = .ok (.lmul, 1)) (hp : pc + 1 = pc') (hz : x * y = z) (k : Run p l e R s m args below meth c Z own V n0 G h cells slots pc' ls (.long z :: st)) : Run p l e R s m args below meth c Z own V n0 G h cells slots pc ls (.long y :: .long x :: st) := by
  subst hp hz
  exact k.go fun T t A q => XT.lmul (g := mkF m pc ls (.long y :: .long x :: st)) A C.1 rfl (hb C.2.1 hd) rfl q
theorem r_land {x y z : Int64} (C : Cx p c meth bytes maxL ret nm) (hd : decode bytes pc = .ok (.land, 1)) (hp : pc + 1 = pc') (hz : x &&& y = z) (k : Run p l e R s m args below meth c Z own V n0 G h cells slots pc' ls (.long z :: st)) : Run p l e R s m args below meth c Z own V n0 G h cells slots pc ls (.long y :: .long x :: st) := by
  subst hp hz
  exact k.go fun T t A q => XT.land (g := mkF m pc ls (.long y :: .long x :: st)) A C.1 rfl (hb C.2.1 hd) rfl q
theorem r_lor {x y z : Int64} (C : Cx p c meth bytes maxL ret nm) (hd : decode bytes pc = .ok (.lor, 1)) (hp : pc + 1 = pc') (hz : x ||| y = z) (k : Run p l e R s m args below meth c Z own V n0 G h cells slots pc' ls (.long z :: st)) : Run p l e R s m args below meth c Z own V n0 G h cells slots pc ls (.long y :: .long x :: st) := by
  subst hp hz
  exact k.go fun T t A q => XT.lor (g := mkF m pc ls (.long y :: .long x :: st)) A C.1 rfl (hb C.2.1 hd) rfl q
theorem r_lxor {x y z : Int64} (C : Cx p c meth bytes maxL ret nm) (hd : decode bytes pc = .ok (.lxor, 1)) (hp : pc + 1 = pc') (hz : x ^^^ y = z) (k : Run p l e R s m args below meth c Z own V n0 G h cells slots pc' ls (.long z :: st)) : Run p l e R s m args below meth c Z own V n0 G h cells slots pc ls (.long y :: .long x :: st) := by
  subst hp hz
  exact k.go fun T t A q => XT.lxor (g := mkF m pc ls (.long y :: .long x :: st)) A C.1 rfl (hb C.2.1 hd) rfl q
theorem r_lshl {x z : Int64} {y : Int32} (C : Cx p c meth bytes maxL ret nm) (hd : decode bytes pc = .ok (.lshl, 1)) (hp : pc + 1 = pc') (hz : x <<< (y.toInt64 &&& 63) = z) (k : Run p l e R s m args below meth c Z own V n0 G h cells slots pc' ls (.long z :: st)) : Run p l e R s m args below meth c Z own V n0 G h cells slots pc ls (.int y :: .long x :: st) := by
  subst hp hz
  exact k.go fun T t A q => XT.lshl (g := mkF m pc ls (.int y :: .long x :: st)) A C.1 rfl (hb C.2.1 hd) rfl q
theorem r_lshr {x z : Int64} {y : Int32} (C : Cx p c meth bytes maxL ret nm) (hd : decode bytes pc = .ok (.lshr, 1)) (hp : pc + 1 = pc') (hz : x >>> (y.toInt64 &&& 63) = z) (k : Run p l e R s m args below meth c Z own V n0 G h cells slots pc' ls (.long z :: st)) : Run p l e R s m args below meth c Z own V n0 G h cells slots pc ls (.int y :: .long x :: st) := by
  subst hp hz
  exact k.go fun T t A q => XT.lshr (g := mkF m pc ls (.int y :: .long x :: st)) A C.1 rfl (hb C.2.1 hd) rfl q
theorem r_lushr {x z : Int64} {y : Int32} (C : Cx p c meth bytes maxL ret nm) (hd : decode bytes pc = .ok (.lushr, 1)) (hp : pc + 1 = pc') (hz : XT.ushrL x y = z) (k : Run p l e R s m args below meth c Z own V n0 G h cells slots pc' ls (.long z :: st)) : Run p l e R s m args below meth c Z own V n0 G h cells slots pc ls (.int y :: .long x :: st) := by
  subst hp hz
  exact k.go fun T t A q => XT.lushr (g := mkF m pc ls (.int y :: .long x :: st)) A C.1 rfl (hb C.2.1 hd) rfl q
theorem irem_mod (x y : Int32) : x - (x / y) * y = x % y := by
  have h : ∀ a b : Int, a - a.tdiv b * b = a.tmod b := fun a b => by have := Int.mul_tdiv_add_tmod a b; rw [Int.mul_comm] at this; omega
  by_cases hy : y = -1
  · subst hy
    apply Int32.toInt_inj.mp
    have h1 := c_isub x ((x / -1) * -1)
    have h2 := c_imul (x / -1) (-1)
    have h3 := c_idivM x (-1) rfl
    have h4 : (x % (-1 : Int32)).toInt = 0 := by rw [Int32.toInt_mod]; show x.toInt.tmod (-1) = 0; simp
    have h5 := rng32 (x - (x / -1) * -1)
    have h6 : ((-1 : Int32)).toInt = -1 := by decide
    rw [h6] at h2
    rw [h4]
    omega
  · apply Int32.toInt_inj.mp
    have h1 := c_isub x ((x / y) * y)
    have h2 := c_imul (x / y) y
    have h3 := Int32.toInt_div_of_ne_right x y hy
    have h4 := Int32.toInt_mod x y
    have h5 := rng32 (x - (x / y) * y)
    have h6 := rng32 (x % y)
    have h7 := h x.toInt y.toInt
    rw [h3] at h2
    rw [← h7] at h4
    omega
theorem r_idiv {x y z : Int32} (C : Cx p c meth bytes maxL ret nm) (hd : decode bytes pc = .ok (.idiv, 1)) (hp : pc + 1 = pc') (hy : y ≠ 0) (hz : x / y = z) (k : Run p l e R s m args below meth c Z own V n0 G h cells slots pc' ls (.int z :: st)) : Run p l e R s m args below meth c Z own V n0 G h cells slots pc ls (.int y :: .int x :: st) := by
  subst hp hz
  exact k.go fun T t A q => XS.idiv (g := mkF m pc ls (.int y :: .int x :: st)) A C.1 rfl (hb C.2.1 hd) rfl hy q
theorem r_irem {x y z : Int32} (C : Cx p c meth bytes maxL ret nm) (hd : decode bytes pc = .ok (.irem, 1)) (hp : pc + 1 = pc') (hy : y ≠ 0) (hz : x % y = z) (k : Run p l e R s m args below meth c Z own V n0 G h cells slots pc' ls (.int z :: st)) : Run p l e R s m args below meth c Z own V n0 G h cells slots pc ls (.int y :: .int x :: st) := by
  subst hp hz
  exact k.go fun T t A q => XS.irem (g := mkF m pc ls (.int y :: .int x :: st)) A C.1 rfl (hb C.2.1 hd) rfl hy (by rw [irem_mod]; exact q)
theorem r_ldiv {x y z : Int64} (C : Cx p c meth bytes maxL ret nm) (hd : decode bytes pc = .ok (.ldiv, 1)) (hp : pc + 1 = pc') (hy : y ≠ 0) (hz : x / y = z) (k : Run p l e R s m args below meth c Z own V n0 G h cells slots pc' ls (.long z :: st)) : Run p l e R s m args below meth c Z own V n0 G h cells slots pc ls (.long y :: .long x :: st) := by
  subst hp hz
  exact k.go fun T t A q => XT.ldiv (g := mkF m pc ls (.long y :: .long x :: st)) A C.1 rfl (hb C.2.1 hd) rfl hy q
theorem r_lrem {x y z : Int64} (C : Cx p c meth bytes maxL ret nm) (hd : decode bytes pc = .ok (.lrem, 1)) (hp : pc + 1 = pc') (hy : y ≠ 0) (hz : x % y = z) (k : Run p l e R s m args below meth c Z own V n0 G h cells slots pc' ls (.long z :: st)) : Run p l e R s m args below meth c Z own V n0 G h cells slots pc ls (.long y :: .long x :: st) := by
  subst hp hz
  exact k.go fun T t A q => XT.lrem (g := mkF m pc ls (.long y :: .long x :: st)) A C.1 rfl (hb C.2.1 hd) rfl hy (by rw [lrem_mod]; exact q)
theorem r_ineg {x z : Int32} (C : Cx p c meth bytes maxL ret nm) (hd : decode bytes pc = .ok (.ineg, 1)) (hp : pc + 1 = pc') (hz : -x = z) (k : Run p l e R s m args below meth c Z own V n0 G h cells slots pc' ls (.int z :: st)) : Run p l e R s m args below meth c Z own V n0 G h cells slots pc ls (.int x :: st) := by
  subst hp hz
  exact k.go fun T t A q => XS.ineg (g := mkF m pc ls (.int x :: st)) A C.1 rfl (hb C.2.1 hd) rfl q
theorem r_lneg {x z : Int64} (C : Cx p c meth bytes maxL ret nm) (hd : decode bytes pc = .ok (.lneg, 1)) (hp : pc + 1 = pc') (hz : -x = z) (k : Run p l e R s m args below meth c Z own V n0 G h cells slots pc' ls (.long z :: st)) : Run p l e R s m args below meth c Z own V n0 G h cells slots pc ls (.long x :: st) := by
  subst hp hz
  exact k.go fun T t A q => XT.lneg (g := mkF m pc ls (.long x :: st)) A C.1 rfl (hb C.2.1 hd) rfl q
theorem r_i2l {x : Int32} {z : Int64} (C : Cx p c meth bytes maxL ret nm) (hd : decode bytes pc = .ok (.i2l, 1)) (hp : pc + 1 = pc') (hz : x.toInt64 = z) (k : Run p l e R s m args below meth c Z own V n0 G h cells slots pc' ls (.long z :: st)) : Run p l e R s m args below meth c Z own V n0 G h cells slots pc ls (.int x :: st) := by
  subst hp hz
  exact k.go fun T t A q => XT.i2l (g := mkF m pc ls (.int x :: st)) A C.1 rfl (hb C.2.1 hd) rfl q
theorem r_l2i {x : Int64} {z : Int32} (C : Cx p c meth bytes maxL ret nm) (hd : decode bytes pc = .ok (.l2i, 1)) (hp : pc + 1 = pc') (hz : x.toInt32 = z) (k : Run p l e R s m args below meth c Z own V n0 G h cells slots pc' ls (.int z :: st)) : Run p l e R s m args below meth c Z own V n0 G h cells slots pc ls (.long x :: st) := by
  subst hp hz
  exact k.go fun T t A q => XT.l2i (g := mkF m pc ls (.long x :: st)) A C.1 rfl (hb C.2.1 hd) rfl q
theorem r_i2b {x : Int32} {z : Int32} (C : Cx p c meth bytes maxL ret nm) (hd : decode bytes pc = .ok (.i2b, 1)) (hp : pc + 1 = pc') (hz : x.toInt8.toInt32 = z) (k : Run p l e R s m args below meth c Z own V n0 G h cells slots pc' ls (.int z :: st)) : Run p l e R s m args below meth c Z own V n0 G h cells slots pc ls (.int x :: st) := by
  subst hp hz
  exact k.go fun T t A q => XT.i2b (g := mkF m pc ls (.int x :: st)) A C.1 rfl (hb C.2.1 hd) rfl q
theorem r_i2c {x : Int32} {z : Int32} (C : Cx p c meth bytes maxL ret nm) (hd : decode bytes pc = .ok (.i2c, 1)) (hp : pc + 1 = pc') (hz : x.toUInt32.toUInt16.toUInt32.toInt32 = z) (k : Run p l e R s m args below meth c Z own V n0 G h cells slots pc' ls (.int z :: st)) : Run p l e R s m args below meth c Z own V n0 G h cells slots pc ls (.int x :: st) := by
  subst hp hz
  exact k.go fun T t A q => XT.i2c (g := mkF m pc ls (.int x :: st)) A C.1 rfl (hb C.2.1 hd) rfl q
theorem r_i2s {x : Int32} {z : Int32} (C : Cx p c meth bytes maxL ret nm) (hd : decode bytes pc = .ok (.i2s, 1)) (hp : pc + 1 = pc') (hz : x.toInt16.toInt32 = z) (k : Run p l e R s m args below meth c Z own V n0 G h cells slots pc' ls (.int z :: st)) : Run p l e R s m args below meth c Z own V n0 G h cells slots pc ls (.int x :: st) := by
  subst hp hz
  exact k.go fun T t A q => XT.i2s (g := mkF m pc ls (.int x :: st)) A C.1 rfl (hb C.2.1 hd) rfl q
theorem r_iconst {i : Int} {z : Int32} (C : Cx p c meth bytes maxL ret nm) (hd : decode bytes pc = .ok (.iconst i, 1)) (hp : pc + 1 = pc') (hz : Int32.ofInt i = z) (k : Run p l e R s m args below meth c Z own V n0 G h cells slots pc' ls (.int z :: st)) : Run p l e R s m args below meth c Z own V n0 G h cells slots pc ls st := by
  subst hp hz
  exact k.go fun T t A q => XS.iconst (g := mkF m pc ls st) A C.1 rfl (hb C.2.1 hd) q
theorem r_bipush {i : Int} {z : Int32} (C : Cx p c meth bytes maxL ret nm) (hd : decode bytes pc = .ok (.bipush i, 2)) (hp : pc + 2 = pc') (hz : (Int8.ofInt i).toInt32 = z) (k : Run p l e R s m args below meth c Z own V n0 G h cells slots pc' ls (.int z :: st)) : Run p l e R s m args below meth c Z own V n0 G h cells slots pc ls st := by
  subst hp hz
  exact k.go fun T t A q => XS.bipush (g := mkF m pc ls st) A C.1 rfl (hb C.2.1 hd) q
theorem r_sipush {i : Int} {z : Int32} (C : Cx p c meth bytes maxL ret nm) (hd : decode bytes pc = .ok (.sipush i, 3)) (hp : pc + 3 = pc') (hz : (Int16.ofInt i).toInt32 = z) (k : Run p l e R s m args below meth c Z own V n0 G h cells slots pc' ls (.int z :: st)) : Run p l e R s m args below meth c Z own V n0 G h cells slots pc ls st := by
  subst hp hz
  exact k.go fun T t A q => XS.sipush (g := mkF m pc ls st) A C.1 rfl (hb C.2.1 hd) q
theorem r_lconst {i : Fin 2} {z : Int64} (C : Cx p c meth bytes maxL ret nm) (hd : decode bytes pc = .ok (.lconst i, 1)) (hp : pc + 1 = pc') (hz : Int64.ofNat i = z) (k : Run p l e R s m args below meth c Z own V n0 G h cells slots pc' ls (.long z :: st)) : Run p l e R s m args below meth c Z own V n0 G h cells slots pc ls st := by
  subst hp hz
  exact k.go fun T t A q => XT.lconst (g := mkF m pc ls st) A C.1 rfl (hb C.2.1 hd) q
theorem r_aconst_null  (C : Cx p c meth bytes maxL ret nm) (hd : decode bytes pc = .ok (.aconst_null, 1)) (hp : pc + 1 = pc')  (k : Run p l e R s m args below meth c Z own V n0 G h cells slots pc' ls (.null :: st)) : Run p l e R s m args below meth c Z own V n0 G h cells slots pc ls st := by
  subst hp
  exact k.go fun T t A q => XS.aconstNull (g := mkF m pc ls st) A C.1 rfl (hb C.2.1 hd) q
theorem r_iload_n {i : Fin 4} {x : Int32} (C : Cx p c meth bytes maxL ret nm) (hd : decode bytes pc = .ok (.iload_n i, 1)) (hp : pc + 1 = pc') (hl : ls[i.val]? = some (.val (.int x))) (k : Run p l e R s m args below meth c Z own V n0 G h cells slots pc' ls (.int x :: st)) : Run p l e R s m args below meth c Z own V n0 G h cells slots pc ls st := by
  subst hp
  exact k.go fun T t A q => XS.iloadN (g := mkF m pc ls st) A C.1 rfl (hb C.2.1 hd) hl q
theorem r_iload {i : Nat} {x : Int32} (C : Cx p c meth bytes maxL ret nm) (hd : decode bytes pc = .ok (.iload i, 2)) (hp : pc + 2 = pc') (hl : ls[i]? = some (.val (.int x))) (k : Run p l e R s m args below meth c Z own V n0 G h cells slots pc' ls (.int x :: st)) : Run p l e R s m args below meth c Z own V n0 G h cells slots pc ls st := by
  subst hp
  exact k.go fun T t A q => XS.iload (g := mkF m pc ls st) A C.1 rfl (hb C.2.1 hd) hl q
theorem r_istore_n {i : Fin 4} {x : Int32} (C : Cx p c meth bytes maxL ret nm) (hd : decode bytes pc = .ok (.istore_n i, 1)) (hp : pc + 1 = pc') (hl : storeLocals ls i.val (.int x) = some ls') (k : Run p l e R s m args below meth c Z own V n0 G h cells slots pc' ls' st) : Run p l e R s m args below meth c Z own V n0 G h cells slots pc ls (.int x :: st) := by
  subst hp
  exact k.go fun T t A q => XS.istoreN (g := mkF m pc ls (.int x :: st)) A C.1 rfl (hb C.2.1 hd) rfl hl q
theorem r_istore {i : Nat} {x : Int32} (C : Cx p c meth bytes maxL ret nm) (hd : decode bytes pc = .ok (.istore i, 2)) (hp : pc + 2 = pc') (hl : storeLocals ls i (.int x) = some ls') (k : Run p l e R s m args below meth c Z own V n0 G h cells slots pc' ls' st) : Run p l e R s m args below meth c Z own V n0 G h cells slots pc ls (.int x :: st) := by
  subst hp
  exact k.go fun T t A q => XS.istore (g := mkF m pc ls (.int x :: st)) A C.1 rfl (hb C.2.1 hd) rfl hl q
theorem r_lload_n {i : Fin 4} {x : Int64} (C : Cx p c meth bytes maxL ret nm) (hd : decode bytes pc = .ok (.lload_n i, 1)) (hp : pc + 1 = pc') (hl : ls[i.val]? = some (.val (.long x))) (k : Run p l e R s m args below meth c Z own V n0 G h cells slots pc' ls (.long x :: st)) : Run p l e R s m args below meth c Z own V n0 G h cells slots pc ls st := by
  subst hp
  exact k.go fun T t A q => XT.lloadN (g := mkF m pc ls st) A C.1 rfl (hb C.2.1 hd) hl q
theorem r_lload {i : Nat} {x : Int64} (C : Cx p c meth bytes maxL ret nm) (hd : decode bytes pc = .ok (.lload i, 2)) (hp : pc + 2 = pc') (hl : ls[i]? = some (.val (.long x))) (k : Run p l e R s m args below meth c Z own V n0 G h cells slots pc' ls (.long x :: st)) : Run p l e R s m args below meth c Z own V n0 G h cells slots pc ls st := by
  subst hp
  exact k.go fun T t A q => XT.lload (g := mkF m pc ls st) A C.1 rfl (hb C.2.1 hd) hl q
theorem r_lstore_n {i : Fin 4} {x : Int64} (C : Cx p c meth bytes maxL ret nm) (hd : decode bytes pc = .ok (.lstore_n i, 1)) (hp : pc + 1 = pc') (hl : storeLocals ls i.val (.long x) = some ls') (k : Run p l e R s m args below meth c Z own V n0 G h cells slots pc' ls' st) : Run p l e R s m args below meth c Z own V n0 G h cells slots pc ls (.long x :: st) := by
  subst hp
  exact k.go fun T t A q => XT.lstoreN (g := mkF m pc ls (.long x :: st)) A C.1 rfl (hb C.2.1 hd) rfl hl q
theorem r_lstore {i : Nat} {x : Int64} (C : Cx p c meth bytes maxL ret nm) (hd : decode bytes pc = .ok (.lstore i, 2)) (hp : pc + 2 = pc') (hl : storeLocals ls i (.long x) = some ls') (k : Run p l e R s m args below meth c Z own V n0 G h cells slots pc' ls' st) : Run p l e R s m args below meth c Z own V n0 G h cells slots pc ls (.long x :: st) := by
  subst hp
  exact k.go fun T t A q => XT.lstore (g := mkF m pc ls (.long x :: st)) A C.1 rfl (hb C.2.1 hd) rfl hl q
theorem r_aload_n {i : Fin 4} {x : Value} (C : Cx p c meth bytes maxL ret nm) (hd : decode bytes pc = .ok (.aload_n i, 1)) (hp : pc + 1 = pc') (hl : ls[i.val]? = some (.val x)) (hv : x.isRef = true) (k : Run p l e R s m args below meth c Z own V n0 G h cells slots pc' ls (x :: st)) : Run p l e R s m args below meth c Z own V n0 G h cells slots pc ls st := by
  subst hp
  exact k.go fun T t A q => XS.aloadN (g := mkF m pc ls st) A C.1 rfl (hb C.2.1 hd) hl hv q
theorem r_aload {i : Nat} {x : Value} (C : Cx p c meth bytes maxL ret nm) (hd : decode bytes pc = .ok (.aload i, 2)) (hp : pc + 2 = pc') (hl : ls[i]? = some (.val x)) (hv : x.isRef = true) (k : Run p l e R s m args below meth c Z own V n0 G h cells slots pc' ls (x :: st)) : Run p l e R s m args below meth c Z own V n0 G h cells slots pc ls st := by
  subst hp
  exact k.go fun T t A q => XS.aload (g := mkF m pc ls st) A C.1 rfl (hb C.2.1 hd) hl hv q
theorem r_astore_n {i : Fin 4} {x : Value} (C : Cx p c meth bytes maxL ret nm) (hd : decode bytes pc = .ok (.astore_n i, 1)) (hp : pc + 1 = pc') (hv : x.isRef = true) (hl : storeLocals ls i.val x = some ls') (k : Run p l e R s m args below meth c Z own V n0 G h cells slots pc' ls' st) : Run p l e R s m args below meth c Z own V n0 G h cells slots pc ls (x :: st) := by
  subst hp
  exact k.go fun T t A q => XS.astoreN (g := mkF m pc ls (x :: st)) A C.1 rfl (hb C.2.1 hd) rfl hv hl q
theorem r_astore {i : Nat} {x : Value} (C : Cx p c meth bytes maxL ret nm) (hd : decode bytes pc = .ok (.astore i, 2)) (hp : pc + 2 = pc') (hv : x.isRef = true) (hl : storeLocals ls i x = some ls') (k : Run p l e R s m args below meth c Z own V n0 G h cells slots pc' ls' st) : Run p l e R s m args below meth c Z own V n0 G h cells slots pc ls (x :: st) := by
  subst hp
  exact k.go fun T t A q => XS.astore (g := mkF m pc ls (x :: st)) A C.1 rfl (hb C.2.1 hd) rfl hv hl q
theorem r_iinc {i : Nat} {cst : Int} {x z : Int32} (C : Cx p c meth bytes maxL ret nm) (hd : decode bytes pc = .ok (.iinc i cst, 3)) (hp : pc + 3 = pc') (hl : ls[i]? = some (.val (.int x))) (hz : x + Int32.ofInt cst = z) (hl' : storeLocals ls i (.int z) = some ls') (k : Run p l e R s m args below meth c Z own V n0 G h cells slots pc' ls' st) : Run p l e R s m args below meth c Z own V n0 G h cells slots pc ls st := by
  subst hp hz
  exact k.go fun T t A q => XS.iinc (g := mkF m pc ls st) A C.1 rfl (hb C.2.1 hd) hl hl' q
theorem r_pop {x : Value} (C : Cx p c meth bytes maxL ret nm) (hd : decode bytes pc = .ok (.pop, 1)) (hp : pc + 1 = pc') (hc : x.category = 1) (k : Run p l e R s m args below meth c Z own V n0 G h cells slots pc' ls st) : Run p l e R s m args below meth c Z own V n0 G h cells slots pc ls (x :: st) := by
  subst hp
  exact k.go fun T t A q => XT.pop (g := mkF m pc ls (x :: st)) A C.1 rfl (hb C.2.1 hd) rfl hc q
theorem r_dup {x : Value} (C : Cx p c meth bytes maxL ret nm) (hd : decode bytes pc = .ok (.dup, 1)) (hp : pc + 1 = pc') (hc : x.category = 1) (k : Run p l e R s m args below meth c Z own V n0 G h cells slots pc' ls (x :: x :: st)) : Run p l e R s m args below meth c Z own V n0 G h cells slots pc ls (x :: st) := by
  subst hp
  exact k.go fun T t A q => XS.dup (g := mkF m pc ls (x :: st)) A C.1 rfl (hb C.2.1 hd) rfl hc q
theorem r_dup_x1 {x y : Value} (C : Cx p c meth bytes maxL ret nm) (hd : decode bytes pc = .ok (.dup_x1, 1)) (hp : pc + 1 = pc') (hc : x.category = 1) (hc' : y.category = 1) (k : Run p l e R s m args below meth c Z own V n0 G h cells slots pc' ls (x :: y :: x :: st)) : Run p l e R s m args below meth c Z own V n0 G h cells slots pc ls (x :: y :: st) := by
  subst hp
  exact k.go fun T t A q => XT.dupX1 (g := mkF m pc ls (x :: y :: st)) A C.1 rfl (hb C.2.1 hd) rfl hc hc' q
theorem r_dup2 {x y : Value} (C : Cx p c meth bytes maxL ret nm) (hd : decode bytes pc = .ok (.dup2, 1)) (hp : pc + 1 = pc') (hc : x.category = 1) (hc' : y.category = 1) (k : Run p l e R s m args below meth c Z own V n0 G h cells slots pc' ls (x :: y :: x :: y :: st)) : Run p l e R s m args below meth c Z own V n0 G h cells slots pc ls (x :: y :: st) := by
  subst hp
  exact k.go fun T t A q => XT.dup2 (g := mkF m pc ls (x :: y :: st)) A C.1 rfl (hb C.2.1 hd) rfl hc hc' q
theorem r_dup2L {x : Int64} (C : Cx p c meth bytes maxL ret nm) (hd : decode bytes pc = .ok (.dup2, 1)) (hp : pc + 1 = pc')  (k : Run p l e R s m args below meth c Z own V n0 G h cells slots pc' ls (.long x :: .long x :: st)) : Run p l e R s m args below meth c Z own V n0 G h cells slots pc ls (.long x :: st) := by
  subst hp
  exact k.go fun T t A q => XT.dup2L (g := mkF m pc ls (.long x :: st)) A C.1 rfl (hb C.2.1 hd) rfl q
theorem toN {a : Nat} {o : Int} {b : Nat} (h : (a : Int) + o = (b : Int)) : 0 ≤ (a : Int) + o ∧ ((a : Int) + o).toNat = b := by omega
theorem r_goto {o : Int} (C : Cx p c meth bytes maxL ret nm) (hd : decode bytes pc = .ok (.goto o, 3)) (hp : (pc : Int) + o = (pc' : Int)) (k : Run p l e R s m args below meth c Z own V n0 G h cells slots pc' ls st) : Run p l e R s m args below meth c Z own V n0 G h cells slots pc ls st :=
  k.go fun T t A q => XS.goto (g := mkF m pc ls st) A C.1 rfl (pc0 := pc) (pc' := pc') rfl (hb C.2.1 hd) (toN hp).1 (toN hp).2 q
theorem r_icmp {x y : Int32} {cd : ClassFile.Cond} {o : Int} {pcT pcF : Nat} (C : Cx p c meth bytes maxL ret nm) (hd : decode bytes pc = .ok (.if_icmp cd o, 3)) (hT : (pc : Int) + o = (pcT : Int)) (hF : pc + 3 = pcF) (kT : if_icmp.holds cd x y = true → Run p l e R s m args below meth c Z own V n0 G h cells slots pcT ls st) (kF : if_icmp.holds cd x y = false → Run p l e R s m args below meth c Z own V n0 G h cells slots pcF ls st) : Run p l e R s m args below meth c Z own V n0 G h cells slots pc ls (.int y :: .int x :: st) := by
  subst hF
  cases hc : if_icmp.holds cd x y
  · exact (kF hc).go fun T t A q => XS.icmpNo (g := mkF m pc ls (.int y :: .int x :: st)) A C.1 rfl (hb C.2.1 hd) rfl hc q
  · exact (kT hc).go fun T t A q => XS.icmpYes (g := mkF m pc ls (.int y :: .int x :: st)) A C.1 rfl (pc0 := pc) (pc' := pcT) rfl (hb C.2.1 hd) rfl hc (toN hT).1 (toN hT).2 q
theorem r_if {x : Int32} {cd : ClassFile.Cond} {o : Int} {pcT pcF : Nat} (C : Cx p c meth bytes maxL ret nm) (hd : decode bytes pc = .ok (.ifCond cd o, 3)) (hT : (pc : Int) + o = (pcT : Int)) (hF : pc + 3 = pcF) (kT : ifCond.holds cd x = true → Run p l e R s m args below meth c Z own V n0 G h cells slots pcT ls st) (kF : ifCond.holds cd x = false → Run p l e R s m args below meth c Z own V n0 G h cells slots pcF ls st) : Run p l e R s m args below meth c Z own V n0 G h cells slots pc ls (.int x :: st) := by
  subst hF
  cases hc : ifCond.holds cd x
  · exact (kF hc).go fun T t A q => XS.ifNo (g := mkF m pc ls (.int x :: st)) A C.1 rfl (hb C.2.1 hd) rfl hc q
  · exact (kT hc).go fun T t A q => XS.ifYes (g := mkF m pc ls (.int x :: st)) A C.1 rfl (pc0 := pc) (pc' := pcT) rfl (hb C.2.1 hd) rfl hc (toN hT).1 (toN hT).2 q
theorem tf {P : Prop} {b : Bool} (h1 : P → b = true) (h2 : ¬ P → b = false) : (b = true → P) ∧ (b = false → ¬ P) := ⟨fun h => Classical.byContradiction fun q => (by rw [h2 q] at h; cases h), fun h q => (by rw [h1 q] at h; cases h)⟩
theorem lt32 {x y : Int32} : x < y ↔ x.toInt < y.toInt := Int32.lt_iff_toInt_lt
theorem nlt32 {x y : Int32} : ¬ x < y ↔ y.toInt ≤ x.toInt := by rw [lt32]; omega
theorem lt64 {x y : Int64} : x < y ↔ x.toInt < y.toInt := Int64.lt_iff_toInt_lt
theorem nlt64 {x y : Int64} : ¬ x < y ↔ y.toInt ≤ x.toInt := by rw [lt64]; omega
theorem r_icmplt {x y : Int32} {o : Int} {pcT pcF : Nat} (C : Cx p c meth bytes maxL ret nm) (hd : decode bytes pc = .ok (.if_icmp .lt o, 3)) (hT : (pc : Int) + o = (pcT : Int)) (hF : pc + 3 = pcF) (kT : x.toInt < y.toInt → Run p l e R s m args below meth c Z own V n0 G h cells slots pcT ls st) (kF : y.toInt ≤ x.toInt → Run p l e R s m args below meth c Z own V n0 G h cells slots pcF ls st) : Run p l e R s m args below meth c Z own V n0 G h cells slots pc ls (.int y :: .int x :: st) :=
  r_icmp C hd hT hF (fun hc => kT (lt32.mp ((tf (P := x < y) XT.ii_lt_t XT.ii_lt_f).1 hc))) (fun hc => kF (nlt32.mp ((tf (P := x < y) XT.ii_lt_t XT.ii_lt_f).2 hc)))
theorem r_iflt {x : Int32} {o : Int} {pcT pcF : Nat} (C : Cx p c meth bytes maxL ret nm) (hd : decode bytes pc = .ok (.ifCond .lt o, 3)) (hT : (pc : Int) + o = (pcT : Int)) (hF : pc + 3 = pcF) (kT : x.toInt < 0 → Run p l e R s m args below meth c Z own V n0 G h cells slots pcT ls st) (kF : 0 ≤ x.toInt → Run p l e R s m args below meth c Z own V n0 G h cells slots pcF ls st) : Run p l e R s m args below meth c Z own V n0 G h cells slots pc ls (.int x :: st) :=
  r_if C hd hT hF (fun hc => kT (lt32.mp ((tf (P := x < (0 : Int32)) XT.i0_lt_t XT.i0_lt_f).1 hc))) (fun hc => kF (nlt32.mp ((tf (P := x < (0 : Int32)) XT.i0_lt_t XT.i0_lt_f).2 hc)))
theorem r_lcmplt {x y : Int64} {o : Int} {pcT pcF : Nat} (C : Cx p c meth bytes maxL ret nm) (hd0 : decode bytes pc = .ok (.lcmp, 1)) (hp : pc + 1 = pc') (hd : decode bytes pc' = .ok (.ifCond .lt o, 3)) (hT : (pc' : Int) + o = (pcT : Int)) (hF : pc' + 3 = pcF) (kT : x.toInt < y.toInt → Run p l e R s m args below meth c Z own V n0 G h cells slots pcT ls st) (kF : y.toInt ≤ x.toInt → Run p l e R s m args below meth c Z own V n0 G h cells slots pcF ls st) : Run p l e R s m args below meth c Z own V n0 G h cells slots pc ls (.long y :: .long x :: st) := by
  subst hp
  exact (r_if (x := XT.cmpL x y) C hd hT hF (fun hc => kT (lt64.mp ((tf (P := x < y) XT.ll_lt_t XT.ll_lt_f).1 hc))) (fun hc => kF (nlt64.mp ((tf (P := x < y) XT.ll_lt_t XT.ll_lt_f).2 hc)))).go fun T t A q => XT.lcmp (g := mkF m pc ls (.long y :: .long x :: st)) A C.1 rfl (hb C.2.1 hd0) rfl q
theorem r_icmpge {x y : Int32} {o : Int} {pcT pcF : Nat} (C : Cx p c meth bytes maxL ret nm) (hd : decode bytes pc = .ok (.if_icmp .ge o, 3)) (hT : (pc : Int) + o = (pcT : Int)) (hF : pc + 3 = pcF) (kT : y.toInt ≤ x.toInt → Run p l e R s m args below meth c Z own V n0 G h cells slots pcT ls st) (kF : x.toInt < y.toInt → Run p l e R s m args below meth c Z own V n0 G h cells slots pcF ls st) : Run p l e R s m args below meth c Z own V n0 G h cells slots pc ls (.int y :: .int x :: st) :=
  r_icmp C hd hT hF (fun hc => kT (nlt32.mp ((tf (P := ¬ x < y) XT.ii_ge_t (fun q => XT.ii_ge_f (Classical.not_not.mp q))).1 hc))) (fun hc => kF (lt32.mp (Classical.not_not.mp ((tf (P := ¬ x < y) XT.ii_ge_t (fun q => XT.ii_ge_f (Classical.not_not.mp q))).2 hc))))
theorem r_ifge {x : Int32} {o : Int} {pcT pcF : Nat} (C : Cx p c meth bytes maxL ret nm) (hd : decode bytes pc = .ok (.ifCond .ge o, 3)) (hT : (pc : Int) + o = (pcT : Int)) (hF : pc + 3 = pcF) (kT : 0 ≤ x.toInt → Run p l e R s m args below meth c Z own V n0 G h cells slots pcT ls st) (kF : x.toInt < 0 → Run p l e R s m args below meth c Z own V n0 G h cells slots pcF ls st) : Run p l e R s m args below meth c Z own V n0 G h cells slots pc ls (.int x :: st) :=
  r_if C hd hT hF (fun hc => kT (nlt32.mp ((tf (P := ¬ x < (0 : Int32)) XT.i0_ge_t (fun q => XT.i0_ge_f (Classical.not_not.mp q))).1 hc))) (fun hc => kF (lt32.mp (Classical.not_not.mp ((tf (P := ¬ x < (0 : Int32)) XT.i0_ge_t (fun q => XT.i0_ge_f (Classical.not_not.mp q))).2 hc))))
theorem r_lcmpge {x y : Int64} {o : Int} {pcT pcF : Nat} (C : Cx p c meth bytes maxL ret nm) (hd0 : decode bytes pc = .ok (.lcmp, 1)) (hp : pc + 1 = pc') (hd : decode bytes pc' = .ok (.ifCond .ge o, 3)) (hT : (pc' : Int) + o = (pcT : Int)) (hF : pc' + 3 = pcF) (kT : y.toInt ≤ x.toInt → Run p l e R s m args below meth c Z own V n0 G h cells slots pcT ls st) (kF : x.toInt < y.toInt → Run p l e R s m args below meth c Z own V n0 G h cells slots pcF ls st) : Run p l e R s m args below meth c Z own V n0 G h cells slots pc ls (.long y :: .long x :: st) := by
  subst hp
  exact (r_if (x := XT.cmpL x y) C hd hT hF (fun hc => kT (nlt64.mp ((tf (P := ¬ x < y) XT.ll_ge_t (fun q => XT.ll_ge_f (Classical.not_not.mp q))).1 hc))) (fun hc => kF (lt64.mp (Classical.not_not.mp ((tf (P := ¬ x < y) XT.ll_ge_t (fun q => XT.ll_ge_f (Classical.not_not.mp q))).2 hc))))).go fun T t A q => XT.lcmp (g := mkF m pc ls (.long y :: .long x :: st)) A C.1 rfl (hb C.2.1 hd0) rfl q
theorem r_icmpgt {x y : Int32} {o : Int} {pcT pcF : Nat} (C : Cx p c meth bytes maxL ret nm) (hd : decode bytes pc = .ok (.if_icmp .gt o, 3)) (hT : (pc : Int) + o = (pcT : Int)) (hF : pc + 3 = pcF) (kT : y.toInt < x.toInt → Run p l e R s m args below meth c Z own V n0 G h cells slots pcT ls st) (kF : x.toInt ≤ y.toInt → Run p l e R s m args below meth c Z own V n0 G h cells slots pcF ls st) : Run p l e R s m args below meth c Z own V n0 G h cells slots pc ls (.int y :: .int x :: st) :=
  r_icmp C hd hT hF (fun hc => kT (lt32.mp ((tf (P := y < x) XT.ii_gt_t XT.ii_gt_f).1 hc))) (fun hc => kF (nlt32.mp ((tf (P := y < x) XT.ii_gt_t XT.ii_gt_f).2 hc)))
theorem r_ifgt {x : Int32} {o : Int} {pcT pcF : Nat} (C : Cx p c meth bytes maxL ret nm) (hd : decode bytes pc = .ok (.ifCond .gt o, 3)) (hT : (pc : Int) + o = (pcT : Int)) (hF : pc + 3 = pcF) (kT : 0 < x.toInt → Run p l e R s m args below meth c Z own V n0 G h cells slots pcT ls st) (kF : x.toInt ≤ 0 → Run p l e R s m args below meth c Z own V n0 G h cells slots pcF ls st) : Run p l e R s m args below meth c Z own V n0 G h cells slots pc ls (.int x :: st) :=
  r_if C hd hT hF (fun hc => kT (lt32.mp ((tf (P := (0 : Int32) < x) XT.i0_gt_t XT.i0_gt_f).1 hc))) (fun hc => kF (nlt32.mp ((tf (P := (0 : Int32) < x) XT.i0_gt_t XT.i0_gt_f).2 hc)))
theorem r_lcmpgt {x y : Int64} {o : Int} {pcT pcF : Nat} (C : Cx p c meth bytes maxL ret nm) (hd0 : decode bytes pc = .ok (.lcmp, 1)) (hp : pc + 1 = pc') (hd : decode bytes pc' = .ok (.ifCond .gt o, 3)) (hT : (pc' : Int) + o = (pcT : Int)) (hF : pc' + 3 = pcF) (kT : y.toInt < x.toInt → Run p l e R s m args below meth c Z own V n0 G h cells slots pcT ls st) (kF : x.toInt ≤ y.toInt → Run p l e R s m args below meth c Z own V n0 G h cells slots pcF ls st) : Run p l e R s m args below meth c Z own V n0 G h cells slots pc ls (.long y :: .long x :: st) := by
  subst hp
  exact (r_if (x := XT.cmpL x y) C hd hT hF (fun hc => kT (lt64.mp ((tf (P := y < x) XT.ll_gt_t XT.ll_gt_f).1 hc))) (fun hc => kF (nlt64.mp ((tf (P := y < x) XT.ll_gt_t XT.ll_gt_f).2 hc)))).go fun T t A q => XT.lcmp (g := mkF m pc ls (.long y :: .long x :: st)) A C.1 rfl (hb C.2.1 hd0) rfl q
theorem r_icmple {x y : Int32} {o : Int} {pcT pcF : Nat} (C : Cx p c meth bytes maxL ret nm) (hd : decode bytes pc = .ok (.if_icmp .le o, 3)) (hT : (pc : Int) + o = (pcT : Int)) (hF : pc + 3 = pcF) (kT : x.toInt ≤ y.toInt → Run p l e R s m args below meth c Z own V n0 G h cells slots pcT ls st) (kF : y.toInt < x.toInt → Run p l e R s m args below meth c Z own V n0 G h cells slots pcF ls st) : Run p l e R s m args below meth c Z own V n0 G h cells slots pc ls (.int y :: .int x :: st) :=
  r_icmp C hd hT hF (fun hc => kT (nlt32.mp ((tf (P := ¬ y < x) XT.ii_le_t (fun q => XT.ii_le_f (Classical.not_not.mp q))).1 hc))) (fun hc => kF (lt32.mp (Classical.not_not.mp ((tf (P := ¬ y < x) XT.ii_le_t (fun q => XT.ii_le_f (Classical.not_not.mp q))).2 hc))))
theorem r_ifle {x : Int32} {o : Int} {pcT pcF : Nat} (C : Cx p c meth bytes maxL ret nm) (hd : decode bytes pc = .ok (.ifCond .le o, 3)) (hT : (pc : Int) + o = (pcT : Int)) (hF : pc + 3 = pcF) (kT : x.toInt ≤ 0 → Run p l e R s m args below meth c Z own V n0 G h cells slots pcT ls st) (kF : 0 < x.toInt → Run p l e R s m args below meth c Z own V n0 G h cells slots pcF ls st) : Run p l e R s m args below meth c Z own V n0 G h cells slots pc ls (.int x :: st) :=
  r_if C hd hT hF (fun hc => kT (nlt32.mp ((tf (P := ¬ (0 : Int32) < x) XT.i0_le_t (fun q => XT.i0_le_f (Classical.not_not.mp q))).1 hc))) (fun hc => kF (lt32.mp (Classical.not_not.mp ((tf (P := ¬ (0 : Int32) < x) XT.i0_le_t (fun q => XT.i0_le_f (Classical.not_not.mp q))).2 hc))))
theorem r_lcmple {x y : Int64} {o : Int} {pcT pcF : Nat} (C : Cx p c meth bytes maxL ret nm) (hd0 : decode bytes pc = .ok (.lcmp, 1)) (hp : pc + 1 = pc') (hd : decode bytes pc' = .ok (.ifCond .le o, 3)) (hT : (pc' : Int) + o = (pcT : Int)) (hF : pc' + 3 = pcF) (kT : x.toInt ≤ y.toInt → Run p l e R s m args below meth c Z own V n0 G h cells slots pcT ls st) (kF : y.toInt < x.toInt → Run p l e R s m args below meth c Z own V n0 G h cells slots pcF ls st) : Run p l e R s m args below meth c Z own V n0 G h cells slots pc ls (.long y :: .long x :: st) := by
  subst hp
  exact (r_if (x := XT.cmpL x y) C hd hT hF (fun hc => kT (nlt64.mp ((tf (P := ¬ y < x) XT.ll_le_t (fun q => XT.ll_le_f (Classical.not_not.mp q))).1 hc))) (fun hc => kF (lt64.mp (Classical.not_not.mp ((tf (P := ¬ y < x) XT.ll_le_t (fun q => XT.ll_le_f (Classical.not_not.mp q))).2 hc))))).go fun T t A q => XT.lcmp (g := mkF m pc ls (.long y :: .long x :: st)) A C.1 rfl (hb C.2.1 hd0) rfl q
theorem r_icmpeq {x y : Int32} {o : Int} {pcT pcF : Nat} (C : Cx p c meth bytes maxL ret nm) (hd : decode bytes pc = .ok (.if_icmp .eq o, 3)) (hT : (pc : Int) + o = (pcT : Int)) (hF : pc + 3 = pcF) (kT : x = y → Run p l e R s m args below meth c Z own V n0 G h cells slots pcT ls st) (kF : ¬ x = y → Run p l e R s m args below meth c Z own V n0 G h cells slots pcF ls st) : Run p l e R s m args below meth c Z own V n0 G h cells slots pc ls (.int y :: .int x :: st) :=
  r_icmp C hd hT hF (fun hc => kT ((tf (P := x = y) XT.ii_eq_t XT.ii_eq_f).1 hc)) (fun hc => kF ((tf (P := x = y) XT.ii_eq_t XT.ii_eq_f).2 hc))
theorem r_ifeq {x : Int32} {o : Int} {pcT pcF : Nat} (C : Cx p c meth bytes maxL ret nm) (hd : decode bytes pc = .ok (.ifCond .eq o, 3)) (hT : (pc : Int) + o = (pcT : Int)) (hF : pc + 3 = pcF) (kT : x = 0 → Run p l e R s m args below meth c Z own V n0 G h cells slots pcT ls st) (kF : ¬ x = 0 → Run p l e R s m args below meth c Z own V n0 G h cells slots pcF ls st) : Run p l e R s m args below meth c Z own V n0 G h cells slots pc ls (.int x :: st) :=
  r_if C hd hT hF (fun hc => kT ((tf (P := x = 0) XT.i0_eq_t XT.i0_eq_f).1 hc)) (fun hc => kF ((tf (P := x = 0) XT.i0_eq_t XT.i0_eq_f).2 hc))
theorem r_lcmpeq {x y : Int64} {o : Int} {pcT pcF : Nat} (C : Cx p c meth bytes maxL ret nm) (hd0 : decode bytes pc = .ok (.lcmp, 1)) (hp : pc + 1 = pc') (hd : decode bytes pc' = .ok (.ifCond .eq o, 3)) (hT : (pc' : Int) + o = (pcT : Int)) (hF : pc' + 3 = pcF) (kT : x = y → Run p l e R s m args below meth c Z own V n0 G h cells slots pcT ls st) (kF : ¬ x = y → Run p l e R s m args below meth c Z own V n0 G h cells slots pcF ls st) : Run p l e R s m args below meth c Z own V n0 G h cells slots pc ls (.long y :: .long x :: st) := by
  subst hp
  exact (r_if (x := XT.cmpL x y) C hd hT hF (fun hc => kT ((tf (P := x = y) XT.ll_eq_t XT.ll_eq_f).1 hc)) (fun hc => kF ((tf (P := x = y) XT.ll_eq_t XT.ll_eq_f).2 hc))).go fun T t A q => XT.lcmp (g := mkF m pc ls (.long y :: .long x :: st)) A C.1 rfl (hb C.2.1 hd0) rfl q
theorem r_icmpne {x y : Int32} {o : Int} {pcT pcF : Nat} (C : Cx p c meth bytes maxL ret nm) (hd : decode bytes pc = .ok (.if_icmp .ne o, 3)) (hT : (pc : Int) + o = (pcT : Int)) (hF : pc + 3 = pcF) (kT : ¬ x = y → Run p l e R s m args below meth c Z own V n0 G h cells slots pcT ls st) (kF : x = y → Run p l e R s m args below meth c Z own V n0 G h cells slots pcF ls st) : Run p l e R s m args below meth c Z own V n0 G h cells slots pc ls (.int y :: .int x :: st) :=
  r_icmp C hd hT hF (fun hc => kT ((tf (P := ¬ x = y) XT.ii_ne_t (fun q => XT.ii_ne_f (Classical.not_not.mp q))).1 hc)) (fun hc => kF (Classical.not_not.mp ((tf (P := ¬ x = y) XT.ii_ne_t (fun q => XT.ii_ne_f (Classical.not_not.mp q))).2 hc)))
theorem r_ifne {x : Int32} {o : Int} {pcT pcF : Nat} (C : Cx p c meth bytes maxL ret nm) (hd : decode bytes pc = .ok (.ifCond .ne o, 3)) (hT : (pc : Int) + o = (pcT : Int)) (hF : pc + 3 = pcF) (kT : ¬ x = 0 → Run p l e R s m args below meth c Z own V n0 G h cells slots pcT ls st) (kF : x = 0 → Run p l e R s m args below meth c Z own V n0 G h cells slots pcF ls st) : Run p l e R s m args below meth c Z own V n0 G h cells slots pc ls (.int x :: st) :=
  r_if C hd hT hF (fun hc => kT ((tf (P := ¬ x = 0) XT.i0_ne_t (fun q => XT.i0_ne_f (Classical.not_not.mp q))).1 hc)) (fun hc => kF (Classical.not_not.mp ((tf (P := ¬ x = 0) XT.i0_ne_t (fun q => XT.i0_ne_f (Classical.not_not.mp q))).2 hc)))
theorem r_lcmpne {x y : Int64} {o : Int} {pcT pcF : Nat} (C : Cx p c meth bytes maxL ret nm) (hd0 : decode bytes pc = .ok (.lcmp, 1)) (hp : pc + 1 = pc') (hd : decode bytes pc' = .ok (.ifCond .ne o, 3)) (hT : (pc' : Int) + o = (pcT : Int)) (hF : pc' + 3 = pcF) (kT : ¬ x = y → Run p l e R s m args below meth c Z own V n0 G h cells slots pcT ls st) (kF : x = y → Run p l e R s m args below meth c Z own V n0 G h cells slots pcF ls st) : Run p l e R s m args below meth c Z own V n0 G h cells slots pc ls (.long y :: .long x :: st) := by
  subst hp
  exact (r_if (x := XT.cmpL x y) C hd hT hF (fun hc => kT ((tf (P := ¬ x = y) XT.ll_ne_t (fun q => XT.ll_ne_f (Classical.not_not.mp q))).1 hc)) (fun hc => kF (Classical.not_not.mp ((tf (P := ¬ x = y) XT.ll_ne_t (fun q => XT.ll_ne_f (Classical.not_not.mp q))).2 hc)))).go fun T t A q => XT.lcmp (g := mkF m pc ls (.long y :: .long x :: st)) A C.1 rfl (hb C.2.1 hd0) rfl q
theorem r_ifnonnullR {a : Addr} {o : Int} (C : Cx p c meth bytes maxL ret nm) (hd : decode bytes pc = .ok (.ifnonnull o, 3)) (hp : (pc : Int) + o = (pc' : Int)) (k : Run p l e R s m args below meth c Z own V n0 G h cells slots pc' ls st) : Run p l e R s m args below meth c Z own V n0 G h cells slots pc ls (.ref a :: st) :=
  k.go fun T t A q => XT.ifnonnullYes (g := mkF m pc ls (.ref a :: st)) A C.1 rfl (pc0 := pc) (pc' := pc') rfl (hb C.2.1 hd) rfl (toN hp).1 (toN hp).2 q
theorem r_ifnullR {a : Addr} {o : Int} (C : Cx p c meth bytes maxL ret nm) (hd : decode bytes pc = .ok (.ifnull o, 3)) (hp : pc + 3 = pc') (k : Run p l e R s m args below meth c Z own V n0 G h cells slots pc' ls st) : Run p l e R s m args below meth c Z own V n0 G h cells slots pc ls (.ref a :: st) := by
  subst hp
  exact k.go fun T t A q => XS.ifnullNo (g := mkF m pc ls (.ref a :: st)) A C.1 rfl (hb C.2.1 hd) rfl q
theorem r_ldc {i : Nat} {x : Int32} (C : Cx p c meth bytes maxL ret nm) (w : (Jvm.Cond.constant own i x).before a0 Z = true) (hd : decode bytes pc = .ok (.ldc i, 2)) (hp : pc + 2 = pc') (k : Run p l e R s m args below meth c Z own V n0 G h cells slots pc' ls (.int x :: st)) : Run p l e R s m args below meth c Z own V n0 G h cells slots pc ls st := by
  subst hp
  intro vm0 k0 T L X hV hk hZ ho N eT
  obtain ⟨U, o, h1, r⟩ := k vm0 k0 T L X hV hk hZ ho N eT
  exact ⟨U, o, X.ldcI (g := mkF m pc ls st) C.1 (own := own) ho (mvT (s := s.setVm vm0) hZ w) rfl (hb C.2.1 hd) h1, r⟩
theorem r_ldc_w {i : Nat} {x : Int32} (C : Cx p c meth bytes maxL ret nm) (w : (Jvm.Cond.constant own i x).before a0 Z = true) (hd : decode bytes pc = .ok (.ldc_w i, 3)) (hp : pc + 3 = pc') (k : Run p l e R s m args below meth c Z own V n0 G h cells slots pc' ls (.int x :: st)) : Run p l e R s m args below meth c Z own V n0 G h cells slots pc ls st := by
  subst hp
  intro vm0 k0 T L X hV hk hZ ho N eT
  obtain ⟨U, o, h1, r⟩ := k vm0 k0 T L X hV hk hZ ho N eT
  exact ⟨U, o, X.ldcWI (g := mkF m pc ls st) C.1 (own := own) ho (mvT (s := s.setVm vm0) hZ w) rfl (hb C.2.1 hd) h1, r⟩
theorem r_ldc2_w {i : Nat} {x : Int64} (C : Cx p c meth bytes maxL ret nm) (w : (Jvm.Cond.constantLong own i x).before a0 Z = true) (hd : decode bytes pc = .ok (.ldc2_w i, 3)) (hp : pc + 3 = pc') (k : Run p l e R s m args below meth c Z own V n0 G h cells slots pc' ls (.long x :: st)) : Run p l e R s m args below meth c Z own V n0 G h cells slots pc ls st := by
  subst hp
  intro vm0 k0 T L X hV hk hZ ho N eT
  obtain ⟨U, o, h1, r⟩ := k vm0 k0 T L X hV hk hZ ho N eT
  exact ⟨U, o, X.ldc2J (g := mkF m pc ls st) C.1 (own := own) ho (mvT (s := s.setVm vm0) hZ w) rfl (hb C.2.1 hd) h1, r⟩
theorem retI0 {T : State} {locs : List Loc} {k n : Nat} (X : Stand p l e R s m args below meth c T locs k n) (hx : p.tables.exec = Jvm.exec) {pc : Nat} {Ls : Array Slot} {z : Int32} {rest : List Value} (hret : meth.sig.returnType = some .int) (hd : decode c.code pc = .ok (.ireturn, 1)) {fs : List Frame}
    (hl : ∀ (f : JFrame) (acts : List Action), f.method = m → f.locked = none → f.entered = [] → (doReturn e (T.setTop f) acts (some (.int z))).1 = T.setFrames fs) : Steps p.tables e below (T.setTop (mkF m pc Ls (.int z :: rest))) (T.setFrames fs) :=
  retOut X hx hret rfl (Or.inl ⟨rfl, Or.inl rfl, z, rfl⟩) hd hl
theorem r_ireturn {z : Int32} {P : Option Value → Heap → Prop} (C : Cx p c meth bytes maxL (some .int) nm) (hd : decode bytes pc = .ok (.ireturn, 1)) (hP : P (some (.int z)) h) (hc : cells ≤ R.cells) (hs : slots ≤ R.slots) : Run p l e R s m args below meth c Z own (plainV s) n0 (Gq s n0 R P) h cells slots pc ls (.int z :: st) := by
  intro vm0 k0 T L X hV hk hZ ho N eT
  cases (show vm0 = s.vm from hV)
  have X' : Stand p l e R s m args below meth c T L cells slots := X
  obtain ⟨fs, hr, hrun, hended, hW, hsame⟩ := X'.leave (v := (some (.int z))) (fun h => by first | rfl | (rw [C.2.2.2.1] at h; cases h)) C.2.2.2.2.1
  exact ⟨_, _, retI0 X' C.1 C.2.2.2.1 (hb C.2.1 hd) hr, hrun, hended, _, _, rfl, ⟨by show P _ T.heap; rw [eT]; exact hP, N⟩, ⟨_, rfl⟩, hW, hsame.mono hc hs⟩
theorem r_ireturnN {z : Int32} {t : FieldType} (ht : t = .boolean ∨ t = .byte ∨ t = .char ∨ t = .short) {P : Option Value → Heap → Prop} (C : Cx p c meth bytes maxL (some t) nm) (hd : decode bytes pc = .ok (.ireturn, 1)) (hP : P (some (.int (nar t z))) h) (hc : cells ≤ R.cells) (hs : slots ≤ R.slots) : Run p l e R s m args below meth c Z own (plainV s) n0 (Gq s n0 R P) h cells slots pc ls (.int z :: st) := by
  intro vm0 k0 T L X hV hk hZ ho N eT
  cases (show vm0 = s.vm from hV)
  have X' : Stand p l e R s m args below meth c T L cells slots := X
  obtain ⟨fs, hr, hrun, hended, hW, hsame⟩ := X'.leave (v := (some (.int (nar t z)))) (fun h => by first | rfl | (rw [C.2.2.2.1] at h; cases h)) C.2.2.2.2.1
  exact ⟨_, _, retN X' C.1 C.2.2.2.1 ht (hb C.2.1 hd) hr, hrun, hended, _, _, rfl, ⟨by show P _ T.heap; rw [eT]; exact hP, N⟩, ⟨_, rfl⟩, hW, hsame.mono hc hs⟩
theorem r_lreturn {z : Int64} {P : Option Value → Heap → Prop} (C : Cx p c meth bytes maxL (some .long) nm) (hd : decode bytes pc = .ok (.lreturn, 1)) (hP : P (some (.long z)) h) (hc : cells ≤ R.cells) (hs : slots ≤ R.slots) : Run p l e R s m args below meth c Z own (plainV s) n0 (Gq s n0 R P) h cells slots pc ls (.long z :: st) := by
  intro vm0 k0 T L X hV hk hZ ho N eT
  cases (show vm0 = s.vm from hV)
  have X' : Stand p l e R s m args below meth c T L cells slots := X
  obtain ⟨fs, hr, hrun, hended, hW, hsame⟩ := X'.leave (v := (some (.long z))) (fun h => by first | rfl | (rw [C.2.2.2.1] at h; cases h)) C.2.2.2.2.1
  exact ⟨_, _, retOut X' C.1 C.2.2.2.1 rfl (Or.inr (Or.inl ⟨rfl, rfl, z, rfl⟩)) (hb C.2.1 hd) hr, hrun, hended, _, _, rfl, ⟨by show P _ T.heap; rw [eT]; exact hP, N⟩, ⟨_, rfl⟩, hW, hsame.mono hc hs⟩
theorem r_areturn {a : Addr} {t : FieldType} (ht : t.isReference = true) (hn : narrow t (.ref a) = .ref a) {P : Option Value → Heap → Prop} (C : Cx p c meth bytes maxL (some t) nm) (hd : decode bytes pc = .ok (.areturn, 1)) (hP : P (some (.ref a)) h) (hc : cells ≤ R.cells) (hs : slots ≤ R.slots) : Run p l e R s m args below meth c Z own (plainV s) n0 (Gq s n0 R P) h cells slots pc ls (.ref a :: st) := by
  intro vm0 k0 T L X hV hk hZ ho N eT
  cases (show vm0 = s.vm from hV)
  have X' : Stand p l e R s m args below meth c T L cells slots := X
  obtain ⟨fs, hr, hrun, hended, hW, hsame⟩ := X'.leave (v := (some (.ref a))) (fun h => by first | rfl | (rw [C.2.2.2.1] at h; cases h)) C.2.2.2.2.1
  exact ⟨_, _, retOut X' C.1 C.2.2.2.1 hn (Or.inr (Or.inr (Or.inr (Or.inr ⟨rfl, ht, rfl⟩)))) (hb C.2.1 hd) hr, hrun, hended, _, _, rfl, ⟨by show P _ T.heap; rw [eT]; exact hP, N⟩, ⟨_, rfl⟩, hW, hsame.mono hc hs⟩
theorem r_return0  {P : Option Value → Heap → Prop} (C : Cx p c meth bytes maxL none nm) (hd : decode bytes pc = .ok (.return_, 1)) (hP : P none h) (hc : cells ≤ R.cells) (hs : slots ≤ R.slots) : Run p l e R s m args below meth c Z own (plainV s) n0 (Gq s n0 R P) h cells slots pc ls [] := by
  intro vm0 k0 T L X hV hk hZ ho N eT
  cases (show vm0 = s.vm from hV)
  have X' : Stand p l e R s m args below meth c T L cells slots := X
  obtain ⟨fs, hr, hrun, hended, hW, hsame⟩ := X'.leave (v := none) (fun h => by first | rfl | (rw [C.2.2.2.1] at h; cases h)) C.2.2.2.2.1
  exact ⟨_, _, X'.returnOut C.1 C.2.2.2.1 (hb C.2.1 hd) hr, hrun, hended, _, _, rfl, ⟨by show P _ T.heap; rw [eT]; exact hP, N⟩, ⟨_, rfl⟩, hW, hsame.mono hc hs⟩
theorem r_callS {y : MethodName} {bytes' : ByteArray} {maxL' : Nat} {ret' : Option FieldType} {rm : Room} {as : List Value} {P : Option Value → Heap → Prop} {index W : Nat} {ps : List FieldType} {r0 : Option FieldType} (C : Cx p c meth bytes maxL ret nm)
    (w1 : (Jvm.Cond.methodLink own index y).before a0 Z = true) (w2 : (Jvm.Cond.static y).before a0 Z = true) (w3 : (Jvm.Cond.initialized y.cls).before a0 Z = true) (w4 : (Jvm.Cond.code y bytes' maxL' ret').before a0 Z = true)
    (hy : y.cls ≠ "java/lang/invoke/MethodHandle" ∧ y.cls ≠ "java/lang/invoke/VarHandle") (hpd : parseMethodDescriptor y.desc = some ⟨ps, r0⟩) (hlen : as.length = ps.length) (hstk : st' = as.reverse ++ st) (hd : decode bytes pc = .ok (.invokestatic index, 3)) (hp : pc + 3 = pc')
    (hsz : ls.size = maxL) (hW : (st.map fun v => v.category).sum ≤ W) (K : Con l Z y bytes' maxL' ret' rm as.toArray h n0 P) (hf : rm.frames + 1 ≤ R.frames) (hl : W + (maxL' + 11) + rm.locals ≤ R.locals) (hc : cells + rm.cells ≤ R.cells) (hs : slots + rm.slots ≤ R.slots)
    (k : ∀ v h', P v h' → Run p l e R s m args below meth c Z own V n0 G h' (cells + rm.cells) (slots + rm.slots) pc' ls (v.toList ++ st)) : Run p l e R s m args below meth c Z own V n0 G h cells slots pc ls st' := by
  subst hp hstk
  intro vm0 k0 T L X hV hk hZ ho N eT
  have hZ' : Z.Warmed39 (s.setVm vm0).vm := hZ
  obtain ⟨v, vm₁, B, hw, X', ⟨L', hQ, e1, e2, e3⟩, stp⟩ := Jvm.LawKit.callS X C.1 (y := y) (own := own) ho (mvT hZ' w1) (mvT hZ' w2) (mvT hZ' w3) (mvT hZ' w4) hy
    (backOf (W := W) (Q := fun v h' L => P v h' ∧ Fr n0 L) (K []) hZ' w4 w3 hf hl) (g := mkF m pc ls (as.reverse ++ st)) rfl (by rw [C.2.2.1]; exact hsz) (argsL := as) (rest := st) (lenOf hpd hlen) rfl (by simpa using hW) (hb C.2.1 hd) (fun _ _ => ⟨rfl, eT, hc, hs⟩)
  obtain ⟨hP, N'⟩ := hQ
  obtain ⟨U, L2, ce2, sl2⟩ := B
  dsimp only [Pt.U, Pt.locs, Pt.cells, Pt.slots] at X' e1 e2 e3 stp hP
  subst e1 e2 e3
  have hle := (stp _ (Steps.refl _)).heap_le
  have hle' : h.size ≤ U.heap.size := by rw [← eT]; exact hle
  obtain ⟨U', o, h1, r⟩ := k v _ hP vm0 k0 U _ X' hV (Nat.le_trans hk hle') hZ ho (Fr.app N N') rfl
  exact ⟨U', o, stp _ h1, r⟩
/-- a constructor (or any '<init>') -/
theorem r_callI {y : MethodName} {bytes' : ByteArray} {maxL' : Nat} {rm : Room} {a : Addr} {as : List Value} {P : Option Value → Heap → Prop} {index W : Nat} {ps : List FieldType} {r0 : Option FieldType} (C : Cx p c meth bytes maxL ret nm) (hy1 : y.name = "<init>")
    (w1 : (Jvm.Cond.methodLink own index y).before a0 Z = true) (w2 : (Jvm.Cond.instanceMethod y).before a0 Z = true) (w3 : (Jvm.Cond.initialized y.cls).before a0 Z = true) (w4 : (Jvm.Cond.code y bytes' maxL' none).before a0 Z = true)
    (hy : y.cls ≠ "java/lang/invoke/MethodHandle" ∧ y.cls ≠ "java/lang/invoke/VarHandle") (hpd : parseMethodDescriptor y.desc = some ⟨ps, r0⟩) (hlen : as.length = ps.length) (hstk : st' = as.reverse ++ .ref a :: st) (hd : decode bytes pc = .ok (.invokespecial index, 3)) (hp : pc + 3 = pc')
    (hsz : ls.size = maxL) (hW : (st.map fun v => v.category).sum ≤ W) (K : Con l Z y bytes' maxL' none rm (.ref a :: as).toArray h n0 P) (hf : rm.frames + 1 ≤ R.frames) (hl : W + (maxL' + 11) + rm.locals ≤ R.locals) (hc : cells + rm.cells ≤ R.cells) (hs : slots + rm.slots ≤ R.slots)
    (k : ∀ v h', P v h' → Run p l e R s m args below meth c Z own V n0 G h' (cells + rm.cells) (slots + rm.slots) pc' ls (v.toList ++ st)) : Run p l e R s m args below meth c Z own V n0 G h cells slots pc ls st' := by
  subst hp hstk
  intro vm0 k0 T L X hV hk hZ ho N eT
  have hZ' : Z.Warmed39 (s.setVm vm0).vm := hZ
  obtain ⟨v, vm₁, B, hw, X', ⟨L', hQ, e1, e2, e3⟩, stp⟩ := X.specialBack C.1 (y := y) hy1 (own := own) ho (mvT hZ' w1) (mvT hZ' w2) (mvT hZ' w4) hy
    (backOf (W := W) (Q := fun v h' L => P v h' ∧ Fr n0 L) (K []) hZ' w4 w3 hf hl) (g := mkF m pc ls (as.reverse ++ .ref a :: st)) rfl (by rw [C.2.2.1]; exact hsz) (Steps.refl _) (a := a) (argsL := as) (rest := st) (lenOf hpd hlen) rfl (by simpa using hW) (hb C.2.1 hd) (fun _ _ => ⟨rfl, eT, hc, hs⟩)
  obtain ⟨hP, N'⟩ := hQ
  obtain ⟨U, L2, ce2, sl2⟩ := B
  dsimp only [Pt.U, Pt.locs, Pt.cells, Pt.slots] at X' e1 e2 e3 stp hP
  subst e1 e2 e3
  have hle := stp.heap_le
  have hle' : h.size ≤ U.heap.size := by rw [← eT]; exact hle
  obtain ⟨U', o, h1, r⟩ := k v _ hP vm0 k0 U _ X' hV (Nat.le_trans hk hle') hZ ho (Fr.app N N') rfl
  exact ⟨U', o, stp.trans h1, r⟩
/-- an instance method of an object whose class is known exactly -/
theorem r_callV {y z : MethodName} {K0 K1 : String} {bytes' : ByteArray} {maxL' : Nat} {ret' : Option FieldType} {rm : Room} {a : Addr} {as : List Value} {P : Option Value → Heap → Prop} {index W : Nat} {ps : List FieldType} {r0 : Option FieldType} (C : Cx p c meth bytes maxL ret nm)
    (w1 : (Jvm.Cond.methodLink own index y).before a0 Z = true) (w2 : (Jvm.Cond.declares y).before a0 Z = true) (w5 : (Jvm.Cond.selects K1 y y).before a0 Z = true) (w6 : (Jvm.Cond.selects K0 y z).before a0 Z = true) (w7 : (Jvm.Cond.instanceMethod z).before a0 Z = true) (w3 : (Jvm.Cond.initialized z.cls).before a0 Z = true) (w4 : (Jvm.Cond.code z bytes' maxL' ret').before a0 Z = true)
    (hy : y.cls ≠ "java/lang/invoke/MethodHandle" ∧ y.cls ≠ "java/lang/invoke/VarHandle") (hpd : parseMethodDescriptor y.desc = some ⟨ps, r0⟩) (hlen : as.length = ps.length) (hstk : st' = as.reverse ++ .ref a :: st) (hd : decode bytes pc = .ok (.invokevirtual index, 3)) (hp : pc + 3 = pc')
    (hsz : ls.size = maxL) (hW : (st.map fun v => v.category).sum ≤ W) (E : Exa Z h a K0) (K : Con l Z z bytes' maxL' ret' rm (.ref a :: as).toArray h n0 P) (hf : rm.frames + 1 ≤ R.frames) (hl : W + (maxL' + 11) + rm.locals ≤ R.locals) (hc : cells + rm.cells ≤ R.cells) (hs : slots + rm.slots ≤ R.slots)
    (k : ∀ v h', P v h' → Run p l e R s m args below meth c Z own V n0 G h' (cells + rm.cells) (slots + rm.slots) pc' ls (v.toList ++ st)) : Run p l e R s m args below meth c Z own V n0 G h cells slots pc ls st' := by
  subst hp hstk
  intro vm0 k0 T L X hV hk hZ ho N eT
  have hZ' : Z.Warmed39 (s.setVm vm0).vm := hZ
  obtain ⟨cq, kq, qa, qb, qc⟩ := isOf hZ' eT E
  have nf : NotFace (s.setVm vm0) y := notFace_of_selects (args := #[]) (mvT hZ' w5)
  obtain ⟨v, vm₁, B, hw, X', ⟨L', hQ, e1, e2, e3⟩, stp⟩ := X.virtualBack C.1 (y := y) (z := z) (own := own) ho (mvT hZ' w1) (mvT hZ' w2) nf (mvT hZ' w6) (mvT hZ' w7) hy
    (backOf (W := W) (Q := fun v h' L => P v h' ∧ Fr n0 L) (K []) hZ' w4 w3 hf hl) qa qc (g := mkF m pc ls (as.reverse ++ .ref a :: st)) rfl (by rw [C.2.2.1]; exact hsz) (Steps.refl _) (argsL := as) (rest := st) (lenOf hpd hlen) rfl (by simpa using hW) (hb C.2.1 hd) (fun _ _ => ⟨rfl, eT, hc, hs⟩)
  obtain ⟨hP, N'⟩ := hQ
  obtain ⟨U, L2, ce2, sl2⟩ := B
  dsimp only [Pt.U, Pt.locs, Pt.cells, Pt.slots] at X' e1 e2 e3 stp hP
  subst e1 e2 e3
  have hle := stp.heap_le
  have hle' : h.size ≤ U.heap.size := by rw [← eT]; exact hle
  obtain ⟨U', o, h1, r⟩ := k v _ hP vm0 k0 U _ X' hV (Nat.le_trans hk hle') hZ ho (Fr.app N N') rfl
  exact ⟨U', o, stp.trans h1, r⟩
theorem r_new {K0 : String} {index n : Nat} (C : Cx p c meth bytes maxL ret nm) (w1 : (Jvm.Cond.classLink own index K0).before a0 Z = true) (w2 : (Jvm.Cond.instantiable K0 n).before a0 Z = true) (w3 : (Jvm.Cond.initialized K0).before a0 Z = true) (hd : decode bytes pc = .ok (.new index, 3)) (hp : pc + 3 = pc') (hc : cells + 1 ≤ R.cells) (hs : slots + n ≤ R.slots)
    (k : ∀ (a : Addr) h', @Eq Nat a h.size → Keep h h' [] → Exa Z h' a K0 → (∀ {O nm d : String} {ty : FieldType}, Laid Z a0 K0 O nm d → parseFieldDescriptor d = some ty → Fld Z h' a O nm d (defaultValue ty)) → Run p l e R s m args below meth c Z own V n0 G h' (cells + 1) (slots + n) pc' ls (.ref a :: st)) : Run p l e R s m args below meth c Z own V n0 G h cells slots pc ls st := by
  subst hp
  intro vm0 k0 T L X hV hk hZ ho N eT
  have hZ' : Z.Warmed39 (s.setVm vm0).vm := hZ
  obtain ⟨T2, h2, X2, e2, E2, A2, D2, -, st2⟩ := newO X C.1 hZ' (own := own) ho w1 w2 w3 eT (g := mkF m pc ls st) rfl (hb C.2.1 hd) hc hs
  obtain ⟨U, o, h1, r⟩ := k _ h2 rfl ((Keep.refl h []).ext E2) A2 D2 vm0 k0 T2 L X2 hV (Nat.le_trans hk E2.1) hZ ho N e2
  exact ⟨U, o, st2 _ h1, r⟩
theorem r_getfield {R0 O n d : String} {host : String} {index : Nat} {a : Addr} {v : Value} (C : Cx p c meth bytes maxL ret nm) (w1 : (Jvm.Cond.fieldLink own index R0 n d).before a0 Z = true ∨ (Jvm.Cond.fieldLinkNest own index R0 n d host).before a0 Z = true) (via : Via Z R0 O n d) (hd : decode bytes pc = .ok (.getfield index, 3)) (hp : pc + 3 = pc') (F : Fld Z h a O n d v)
    (k : Run p l e R s m args below meth c Z own V n0 G h cells slots pc' ls (v :: st)) : Run p l e R s m args below meth c Z own V n0 G h cells slots pc ls (.ref a :: st) := by
  subst hp
  intro vm0 k0 T L X hV hk hZ ho N eT
  have hZ' : Z.Warmed39 (s.setVm vm0).vm := hZ
  obtain ⟨T2, X2, e2, st2⟩ := getF X C.1 hZ' (own := own) ho w1 via eT F (g := mkF m pc ls (.ref a :: st)) rfl rfl (hb C.2.1 hd)
  obtain ⟨U, o, h1, r⟩ := k vm0 k0 T2 L X2 hV hk hZ ho N e2
  exact ⟨U, o, st2 _ h1, r⟩
theorem r_putfield {R0 O n d K0 : String} {host : String} {index kk : Nat} {ty : FieldType} {a : Addr} {v old : Value} (C : Cx p c meth bytes maxL ret nm) (w1 : (Jvm.Cond.fieldLink own index R0 n d).before a0 Z = true ∨ (Jvm.Cond.fieldLinkNest own index R0 n d host).before a0 Z = true) (via : Via Z R0 O n d) (hL : (Jvm.Cond.lays K0 O n d).before a0 Z = true ∨ ((Jvm.Cond.laysFinal K0 O n d).before a0 Z = true ∧ own = O ∧ nm = "<init>")) (w2 : (Jvm.Cond.instantiable K0 kk).before a0 Z = true) (hty : parseFieldDescriptor d = some ty)
    (hd : decode bytes pc = .ok (.putfield index, 3)) (hp : pc + 3 = pc') (hn : narrow ty v = v) (hfi : fits ty v = true) (hge : n0 ≤ a) (F : Fld Z h a O n d old) (E : Exa Z h a K0)
    (k : ∀ h', Keep h h' [a] → Exa Z h' a K0 → Fld Z h' a O n d v → (∀ {O' n' d' : String} {w : Value} {t' : FieldType}, Laid Z a0 K0 O' n' d' → Laid Z a0 K0 O n d → n' ≠ n → parseFieldDescriptor d' = some t' → Fld Z h a O' n' d' w → Fld Z h' a O' n' d' w) → Run p l e R s m args below meth c Z own V n0 G h' cells slots pc' ls st) : Run p l e R s m args below meth c Z own V n0 G h cells slots pc ls (v :: .ref a :: st) := by
  subst hp
  intro vm0 k0 T L X hV hk hZ ho N eT
  have hZ' : Z.Warmed39 (s.setVm vm0).vm := hZ
  obtain ⟨T2, h2, X2, e2, W2, st2⟩ := putF X C.1 hZ' (own := own) ho w1 via eT F E (hL.imp id fun q => ⟨q.1, q.2.1, C.2.2.2.2.2.trans q.2.2⟩) w2 hty hn hfi (g := mkF m pc ls (v :: .ref a :: st)) rfl rfl (hb C.2.1 hd)
  obtain ⟨U, o, h1, r⟩ := k h2 (Keep.of_wr W2) (E.wr W2) (F.same W2) (fun L1 L2 hne ht F' => F'.other W2 (Or.inr (slot_ne L1 L2 hne ht hty))) vm0 k0 T2 _ X2 hV (by rw [W2.size]; exact hk) hZ ho (Fr.snoc X2 N hge) e2
  exact ⟨U, o, st2 _ h1, r⟩
theorem r_putfieldN {R0 O n d K0 : String} {index kk : Nat} {ty : FieldType} {a : Addr} {v v' old : Value} (C : Cx p c meth bytes maxL ret nm) (w1 : (Jvm.Cond.fieldLink own index R0 n d).before a0 Z = true) (via : Via Z R0 O n d) (hL : (Jvm.Cond.lays K0 O n d).before a0 Z = true ∨ ((Jvm.Cond.laysFinal K0 O n d).before a0 Z = true ∧ own = O ∧ nm = "<init>")) (w2 : (Jvm.Cond.instantiable K0 kk).before a0 Z = true) (hty : parseFieldDescriptor d = some ty)
    (hd : decode bytes pc = .ok (.putfield index, 3)) (hp : pc + 3 = pc') (hn : narrow ty v = v') (hfi : fits ty v' = true) (hge : n0 ≤ a) (F : Fld Z h a O n d old) (E : Exa Z h a K0)
    (k : ∀ h', Keep h h' [a] → Exa Z h' a K0 → Fld Z h' a O n d v' → (∀ {O' n' d' : String} {w : Value} {t' : FieldType}, Laid Z a0 K0 O' n' d' → Laid Z a0 K0 O n d → n' ≠ n → parseFieldDescriptor d' = some t' → Fld Z h a O' n' d' w → Fld Z h' a O' n' d' w) → Run p l e R s m args below meth c Z own V n0 G h' cells slots pc' ls st) : Run p l e R s m args below meth c Z own V n0 G h cells slots pc ls (v :: .ref a :: st) := by
  subst hp
  intro vm0 k0 T L X hV hk hZ ho N eT
  have hZ' : Z.Warmed39 (s.setVm vm0).vm := hZ
  obtain ⟨T2, h2, X2, e2, W2, st2⟩ := putFN X C.1 hZ' (own := own) ho w1 via eT F E (hL.imp id fun q => ⟨q.1, q.2.1, C.2.2.2.2.2.trans q.2.2⟩) w2 hty hn hfi (g := mkF m pc ls (v :: .ref a :: st)) rfl rfl (hb C.2.1 hd)
  obtain ⟨U, o, h1, r⟩ := k h2 (Keep.of_wr W2) (E.wr W2) (F.same W2) (fun L1 L2 hne ht F' => F'.other W2 (Or.inr (slot_ne L1 L2 hne ht hty))) vm0 k0 T2 _ X2 hV (by rw [W2.size]; exact hk) hZ ho (Fr.snoc X2 N hge) e2
  exact ⟨U, o, st2 _ h1, r⟩
theorem r_initO {index W : Nat} {a : Addr} (C : Cx p c meth bytes maxL ret nm) (w1 : (Jvm.Cond.methodLink own index Lib.objectInit).before a0 Z = true) (w2 : (Jvm.Cond.instanceMethod Lib.objectInit).before a0 Z = true) (w3 : (Jvm.Cond.code Lib.objectInit ⟨#[0xb1]⟩ 1 none).before a0 Z = true) (hd : decode bytes pc = .ok (.invokespecial index, 3)) (hp : pc + 3 = pc') (hsz : ls.size = maxL)
    (hf : 1 ≤ R.frames) (hW : (st.map fun v => v.category).sum ≤ W) (hl : W + 12 ≤ R.locals) (k : Run p l e R s m args below meth c Z own V n0 G h cells slots pc' ls st) : Run p l e R s m args below meth c Z own V n0 G h cells slots pc ls (.ref a :: st) := by
  subst hp
  intro vm0 k0 T L X hV hk hZ ho N eT
  have hZ' : Z.Warmed39 (s.setVm vm0).vm := hZ
  obtain ⟨T2, X2, e2, st2⟩ := initO X C.1 hZ' (own := own) ho w1 w2 w3 eT (g := mkF m pc ls (.ref a :: st)) rfl (by rw [C.2.2.1]; exact hsz) rfl (hb C.2.1 hd) hf (W := W) (by simpa using hW) hl
  obtain ⟨U, o, h1, r⟩ := k vm0 k0 T2 L X2 hV hk hZ ho N e2
  exact ⟨U, o, st2 _ h1, r⟩
theorem r_getstatic {R0 O n d host : String} {index : Nat} {v : Value} (C : Cx p c meth bytes maxL ret nm) (w1 : (Jvm.Cond.fieldLink own index R0 n d).before a0 Z = true) (via : Via Z R0 O n d) (hd : decode bytes pc = .ok (.getstatic index, 3)) (hp : pc + 3 = pc') (F : Sta Z h O n d v) (k : Run p l e R s m args below meth c Z own V n0 G h cells slots pc' ls (v :: st)) : Run p l e R s m args below meth c Z own V n0 G h cells slots pc ls st := by
  subst hp
  intro vm0 k0 T L X hV hk hZ ho N eT
  have hZ' : Z.Warmed39 (s.setVm vm0).vm := hZ
  obtain ⟨T2, X2, e2, st2⟩ := getS2 X C.1 hZ' (own := own) ho (host := "") (Or.inl w1) via eT F (g := mkF m pc ls st) rfl (hb C.2.1 hd)
  obtain ⟨U, o, h1, r⟩ := k vm0 k0 T2 L X2 hV hk hZ ho N e2
  exact ⟨U, o, st2 _ h1, r⟩
/-- the array at a: n places of kind ty, place j holds f j -/
def IA (Z : State) (h : Heap) (a : Addr) (ty : FieldType) (n : Nat) (f : Nat → Value) : Prop := ∃ cl : Cell, Arr Z h a cl ty ∧ cl.slots.size = n ∧ n < 2 ^ 31 ∧ ∀ j, j < n → cl.slots[j]? = some (f j)
theorem IA.lt {a : Addr} {ty : FieldType} {n : Nat} {f : Nat → Value} (A : IA Z h a ty n f) : a < h.size := by obtain ⟨cl, A, -⟩ := A; exact A.lt
theorem IA.keep {h' : Heap} {ws : List Addr} {a : Addr} {ty : FieldType} {n : Nat} {f : Nat → Value} (A : IA Z h a ty n f) (K : Keep h h' ws) (q : a ∉ ws) : IA Z h' a ty n f := by
  obtain ⟨cl, A, r⟩ := A
  exact ⟨cl, ⟨K.2.1 a cl A.1 q, A.2⟩, r⟩
theorem IA.congr {a : Addr} {ty : FieldType} {n : Nat} {f g : Nat → Value} (A : IA Z h a ty n f) (q : ∀ j, j < n → f j = g j) : IA Z h a ty n g := by
  obtain ⟨cl, A, r1, r2, r3⟩ := A
  exact ⟨cl, A, r1, r2, fun j hj => by rw [r3 j hj, q j hj]⟩
theorem tnn {j : Int32} {n : Nat} (h : j.toInt = (n : Int)) : ¬ j < 0 ∧ j.toNatClampNeg = n := by
  have h0 : ¬ j < 0 := nlt32.mpr (by rw [h]; show (0 : Int) ≤ _; omega)
  exact ⟨h0, by have := nat_of h0; omega⟩
theorem IA.set {h' : Heap} {a : Addr} {ty : FieldType} {n k : Nat} {f : Nat → Value} {v : Value} (A : IA Z h a ty n f) (W : Wr h h' a k v) : IA Z h' a ty n (fun j => if j = k then v else f j) := by
  obtain ⟨cl, A, r1, r2, r3⟩ := A
  refine ⟨cl.setSlot k v, A.same W, by rw [sz_set, r1], r2, fun j hj => ?_⟩
  show (cl.slots.setIfInBounds k v)[j]? = _
  rw [Array.getElem?_setIfInBounds]
  by_cases q : k = j
  · subst q; simp [r1, hj]
  · rw [if_neg q, r3 j hj]
    show some (f j) = some (if j = k then v else f j)
    rw [if_neg (fun z => q (Eq.symm z))]
theorem r_iaload {a : Addr} {n jn : Nat} {f : Nat → Int32} {j : Int32} {x : Int32} (C : Cx p c meth bytes maxL ret nm) (hd : decode bytes pc = .ok (.iaload, 1)) (hp : pc + 1 = pc') (A : IA Z h a .int n (fun i => .int (f i))) (hj : j.toInt = (jn : Int)) (hlt : jn < n) (hv : f jn = x) (k : Run p l e R s m args below meth c Z own V n0 G h cells slots pc' ls (.int x :: st)) : Run p l e R s m args below meth c Z own V n0 G h cells slots pc ls (.int j :: .ref a :: st) := by
  subst hp
  intro vm0 k0 T L X hV hk hZ ho N eT
  have hZ' : Z.Warmed39 (s.setVm vm0).vm := hZ
  obtain ⟨cl, A, r1, r2, r3⟩ := A
  obtain ⟨t1, t2⟩ := tnn hj
  obtain ⟨U, o, h1, r⟩ := k vm0 k0 T L X hV hk hZ ho N eT
  exact ⟨U, o, X.iaload C.1 (j := j) (v := .int x) (by rw [eT]; exact A.1) (State.isArrayOf_alike hZ'.alike A.2.1) A.2.2 (by rw [r1, t2]; exact fun q => q.elim t1 (Nat.not_le.mpr hlt)) (by rw [t2, r3 jn hlt, ← hv]) (g := mkF m pc ls (.int j :: .ref a :: st)) rfl rfl (hb C.2.1 hd) _ h1, r⟩
theorem r_laload {a : Addr} {n jn : Nat} {f : Nat → Int64} {j : Int32} {x : Int64} (C : Cx p c meth bytes maxL ret nm) (hd : decode bytes pc = .ok (.laload, 1)) (hp : pc + 1 = pc') (A : IA Z h a .long n (fun i => .long (f i))) (hj : j.toInt = (jn : Int)) (hlt : jn < n) (hv : f jn = x) (k : Run p l e R s m args below meth c Z own V n0 G h cells slots pc' ls (.long x :: st)) : Run p l e R s m args below meth c Z own V n0 G h cells slots pc ls (.int j :: .ref a :: st) := by
  subst hp
  intro vm0 k0 T L X hV hk hZ ho N eT
  have hZ' : Z.Warmed39 (s.setVm vm0).vm := hZ
  obtain ⟨cl, A, r1, r2, r3⟩ := A
  obtain ⟨t1, t2⟩ := tnn hj
  obtain ⟨U, o, h1, r⟩ := k vm0 k0 T L X hV hk hZ ho N eT
  exact ⟨U, o, X.laload C.1 (j := j) (v := .long x) (by rw [eT]; exact A.1) (State.isArrayOf_alike hZ'.alike A.2.1) A.2.2 (by rw [r1, t2]; exact fun q => q.elim t1 (Nat.not_le.mpr hlt)) (by rw [t2, r3 jn hlt, ← hv]) (g := mkF m pc ls (.int j :: .ref a :: st)) rfl rfl (hb C.2.1 hd) _ h1, r⟩
theorem r_caload {a : Addr} {n jn : Nat} {f : Nat → Int32} {j : Int32} {x : Int32} (C : Cx p c meth bytes maxL ret nm) (hd : decode bytes pc = .ok (.caload, 1)) (hp : pc + 1 = pc') (A : IA Z h a .char n (fun i => .int (f i))) (hj : j.toInt = (jn : Int)) (hlt : jn < n) (hv : f jn = x) (k : Run p l e R s m args below meth c Z own V n0 G h cells slots pc' ls (.int x :: st)) : Run p l e R s m args below meth c Z own V n0 G h cells slots pc ls (.int j :: .ref a :: st) := by
  subst hp
  intro vm0 k0 T L X hV hk hZ ho N eT
  have hZ' : Z.Warmed39 (s.setVm vm0).vm := hZ
  obtain ⟨cl, A, r1, r2, r3⟩ := A
  obtain ⟨t1, t2⟩ := tnn hj
  obtain ⟨U, o, h1, r⟩ := k vm0 k0 T L X hV hk hZ ho N eT
  exact ⟨U, o, X.caload C.1 (j := j) (v := .int x) (by rw [eT]; exact A.1) (State.isArrayOf_alike hZ'.alike A.2.1) A.2.2 (by rw [r1, t2]; exact fun q => q.elim t1 (Nat.not_le.mpr hlt)) (by rw [t2, r3 jn hlt, ← hv]) (g := mkF m pc ls (.int j :: .ref a :: st)) rfl rfl (hb C.2.1 hd) _ h1, r⟩
theorem r_baload {a : Addr} {n jn : Nat} {f : Nat → Int32} {j : Int32} {x : Int32} (C : Cx p c meth bytes maxL ret nm) (hd : decode bytes pc = .ok (.baload, 1)) (hp : pc + 1 = pc') (A : IA Z h a .byte n (fun i => .int (f i))) (hj : j.toInt = (jn : Int)) (hlt : jn < n) (hv : f jn = x) (k : Run p l e R s m args below meth c Z own V n0 G h cells slots pc' ls (.int x :: st)) : Run p l e R s m args below meth c Z own V n0 G h cells slots pc ls (.int j :: .ref a :: st) := by
  subst hp
  intro vm0 k0 T L X hV hk hZ ho N eT
  have hZ' : Z.Warmed39 (s.setVm vm0).vm := hZ
  obtain ⟨cl, A, r1, r2, r3⟩ := A
  obtain ⟨t1, t2⟩ := tnn hj
  obtain ⟨U, o, h1, r⟩ := k vm0 k0 T L X hV hk hZ ho N eT
  exact ⟨U, o, X.baloadBytes C.1 (j := j) (v := .int x) (by rw [eT]; exact A.1) (State.isArrayOf_alike hZ'.alike A.2.1) A.2.2 (by rw [r1, t2]; exact fun q => q.elim t1 (Nat.not_le.mpr hlt)) (by rw [t2, r3 jn hlt, ← hv]) (g := mkF m pc ls (.int j :: .ref a :: st)) rfl rfl (hb C.2.1 hd) _ h1, r⟩
theorem r_zaload {a : Addr} {n jn : Nat} {f : Nat → Int32} {j : Int32} {x : Int32} (C : Cx p c meth bytes maxL ret nm) (hd : decode bytes pc = .ok (.baload, 1)) (hp : pc + 1 = pc') (A : IA Z h a .boolean n (fun i => .int (f i))) (hj : j.toInt = (jn : Int)) (hlt : jn < n) (hv : f jn = x) (k : Run p l e R s m args below meth c Z own V n0 G h cells slots pc' ls (.int x :: st)) : Run p l e R s m args below meth c Z own V n0 G h cells slots pc ls (.int j :: .ref a :: st) := by
  subst hp
  intro vm0 k0 T L X hV hk hZ ho N eT
  have hZ' : Z.Warmed39 (s.setVm vm0).vm := hZ
  obtain ⟨cl, A, r1, r2, r3⟩ := A
  obtain ⟨t1, t2⟩ := tnn hj
  obtain ⟨U, o, h1, r⟩ := k vm0 k0 T L X hV hk hZ ho N eT
  exact ⟨U, o, X.baloadBooleans C.1 (j := j) (v := .int x) (by rw [eT]; exact A.1) (State.isArrayOf_alike hZ'.alike A.2.1) A.2.2 (by rw [r1, t2]; exact fun q => q.elim t1 (Nat.not_le.mpr hlt)) (by rw [t2, r3 jn hlt, ← hv]) (g := mkF m pc ls (.int j :: .ref a :: st)) rfl rfl (hb C.2.1 hd) _ h1, r⟩
theorem r_iastore {a : Addr} {n jn : Nat} {f : Nat → Int32} {j : Int32} {x : Int32} (C : Cx p c meth bytes maxL ret nm) (hd : decode bytes pc = .ok (.iastore, 1)) (hp : pc + 1 = pc') (A : IA Z h a .int n (fun i => .int (f i))) (hj : j.toInt = (jn : Int)) (hlt : jn < n) (hge : n0 ≤ a) (k : ∀ h', Keep h h' [a] → IA Z h' a .int n (fun i => .int (if i = jn then x else f i)) → Run p l e R s m args below meth c Z own V n0 G h' cells slots pc' ls st) : Run p l e R s m args below meth c Z own V n0 G h cells slots pc ls (.int x :: .int j :: .ref a :: st) := by
  subst hp
  intro vm0 k0 T L X hV hk hZ ho N eT
  have hZ' : Z.Warmed39 (s.setVm vm0).vm := hZ
  have A0 := A
  obtain ⟨cl, A, r1, r2, r3⟩ := A
  obtain ⟨t1, t2⟩ := tnn hj
  obtain ⟨T2, h2, X2, e2, W2, st2⟩ := stI X C.1 hZ' eT A (j := j) (x := x) (by rw [r1, t2]; exact fun q => q.elim t1 (Nat.not_le.mpr hlt)) (g := mkF m pc ls (.int x :: .int j :: .ref a :: st)) rfl rfl (hb C.2.1 hd)
  rw [t2] at W2
  obtain ⟨U, o, h1, r⟩ := k h2 (Keep.of_wr W2) ((A0.set W2).congr fun i _ => by by_cases q : i = jn <;> simp [q]) vm0 k0 T2 _ X2 hV (by rw [W2.size]; exact hk) hZ ho (Fr.snoc X2 N hge) e2
  exact ⟨U, o, st2 _ h1, r⟩
theorem r_lastore {a : Addr} {n jn : Nat} {f : Nat → Int64} {j : Int32} {x : Int64} (C : Cx p c meth bytes maxL ret nm) (hd : decode bytes pc = .ok (.lastore, 1)) (hp : pc + 1 = pc') (A : IA Z h a .long n (fun i => .long (f i))) (hj : j.toInt = (jn : Int)) (hlt : jn < n) (hge : n0 ≤ a) (k : ∀ h', Keep h h' [a] → IA Z h' a .long n (fun i => .long (if i = jn then x else f i)) → Run p l e R s m args below meth c Z own V n0 G h' cells slots pc' ls st) : Run p l e R s m args below meth c Z own V n0 G h cells slots pc ls (.long x :: .int j :: .ref a :: st) := by
  subst hp
  intro vm0 k0 T L X hV hk hZ ho N eT
  have hZ' : Z.Warmed39 (s.setVm vm0).vm := hZ
  have A0 := A
  obtain ⟨cl, A, r1, r2, r3⟩ := A
  obtain ⟨t1, t2⟩ := tnn hj
  obtain ⟨T2, h2, X2, e2, W2, st2⟩ := stJ X C.1 hZ' eT A (j := j) (x := x) (by rw [r1, t2]; exact fun q => q.elim t1 (Nat.not_le.mpr hlt)) (g := mkF m pc ls (.long x :: .int j :: .ref a :: st)) rfl rfl (hb C.2.1 hd)
  rw [t2] at W2
  obtain ⟨U, o, h1, r⟩ := k h2 (Keep.of_wr W2) ((A0.set W2).congr fun i _ => by by_cases q : i = jn <;> simp [q]) vm0 k0 T2 _ X2 hV (by rw [W2.size]; exact hk) hZ ho (Fr.snoc X2 N hge) e2
  exact ⟨U, o, st2 _ h1, r⟩
theorem r_castore {a : Addr} {n jn : Nat} {f : Nat → Int32} {j : Int32} {x : Int32} (C : Cx p c meth bytes maxL ret nm) (hd : decode bytes pc = .ok (.castore, 1)) (hp : pc + 1 = pc') (A : IA Z h a .char n (fun i => .int (f i))) (hj : j.toInt = (jn : Int)) (hlt : jn < n) (hge : n0 ≤ a) (k : ∀ h', Keep h h' [a] → IA Z h' a .char n (fun i => .int (if i = jn then (nar .char x) else f i)) → Run p l e R s m args below meth c Z own V n0 G h' cells slots pc' ls st) : Run p l e R s m args below meth c Z own V n0 G h cells slots pc ls (.int x :: .int j :: .ref a :: st) := by
  subst hp
  intro vm0 k0 T L X hV hk hZ ho N eT
  have hZ' : Z.Warmed39 (s.setVm vm0).vm := hZ
  have A0 := A
  obtain ⟨cl, A, r1, r2, r3⟩ := A
  obtain ⟨t1, t2⟩ := tnn hj
  obtain ⟨T2, h2, X2, e2, W2, st2⟩ := stC X C.1 hZ' eT A (j := j) (x := x) (by rw [r1, t2]; exact fun q => q.elim t1 (Nat.not_le.mpr hlt)) (g := mkF m pc ls (.int x :: .int j :: .ref a :: st)) rfl rfl (hb C.2.1 hd)
  rw [t2] at W2
  obtain ⟨U, o, h1, r⟩ := k h2 (Keep.of_wr W2) ((A0.set W2).congr fun i _ => by by_cases q : i = jn <;> simp [q]) vm0 k0 T2 _ X2 hV (by rw [W2.size]; exact hk) hZ ho (Fr.snoc X2 N hge) e2
  exact ⟨U, o, st2 _ h1, r⟩
theorem r_bastore {a : Addr} {n jn : Nat} {f : Nat → Int32} {j : Int32} {x : Int32} (C : Cx p c meth bytes maxL ret nm) (hd : decode bytes pc = .ok (.bastore, 1)) (hp : pc + 1 = pc') (A : IA Z h a .byte n (fun i => .int (f i))) (hj : j.toInt = (jn : Int)) (hlt : jn < n) (hge : n0 ≤ a) (k : ∀ h', Keep h h' [a] → IA Z h' a .byte n (fun i => .int (if i = jn then (nar .byte x) else f i)) → Run p l e R s m args below meth c Z own V n0 G h' cells slots pc' ls st) : Run p l e R s m args below meth c Z own V n0 G h cells slots pc ls (.int x :: .int j :: .ref a :: st) := by
  subst hp
  intro vm0 k0 T L X hV hk hZ ho N eT
  have hZ' : Z.Warmed39 (s.setVm vm0).vm := hZ
  have A0 := A
  obtain ⟨cl, A, r1, r2, r3⟩ := A
  obtain ⟨t1, t2⟩ := tnn hj
  obtain ⟨T2, h2, X2, e2, W2, st2⟩ := stB X C.1 hZ' eT A (j := j) (x := x) (by rw [r1, t2]; exact fun q => q.elim t1 (Nat.not_le.mpr hlt)) (g := mkF m pc ls (.int x :: .int j :: .ref a :: st)) rfl rfl (hb C.2.1 hd)
  rw [t2] at W2
  obtain ⟨U, o, h1, r⟩ := k h2 (Keep.of_wr W2) ((A0.set W2).congr fun i _ => by by_cases q : i = jn <;> simp [q]) vm0 k0 T2 _ X2 hV (by rw [W2.size]; exact hk) hZ ho (Fr.snoc X2 N hge) e2
  exact ⟨U, o, st2 _ h1, r⟩
theorem r_zastore {a : Addr} {n jn : Nat} {f : Nat → Int32} {j : Int32} {x : Int32} (C : Cx p c meth bytes maxL ret nm) (hd : decode bytes pc = .ok (.bastore, 1)) (hp : pc + 1 = pc') (A : IA Z h a .boolean n (fun i => .int (f i))) (hj : j.toInt = (jn : Int)) (hlt : jn < n) (hge : n0 ≤ a) (k : ∀ h', Keep h h' [a] → IA Z h' a .boolean n (fun i => .int (if i = jn then (nar .boolean x) else f i)) → Run p l e R s m args below meth c Z own V n0 G h' cells slots pc' ls st) : Run p l e R s m args below meth c Z own V n0 G h cells slots pc ls (.int x :: .int j :: .ref a :: st) := by
  subst hp
  intro vm0 k0 T L X hV hk hZ ho N eT
  have hZ' : Z.Warmed39 (s.setVm vm0).vm := hZ
  have A0 := A
  obtain ⟨cl, A, r1, r2, r3⟩ := A
  obtain ⟨t1, t2⟩ := tnn hj
  obtain ⟨T2, h2, X2, e2, W2, st2⟩ := stZ X C.1 hZ' eT A (j := j) (x := x) (by rw [r1, t2]; exact fun q => q.elim t1 (Nat.not_le.mpr hlt)) (g := mkF m pc ls (.int x :: .int j :: .ref a :: st)) rfl rfl (hb C.2.1 hd)
  rw [t2] at W2
  obtain ⟨U, o, h1, r⟩ := k h2 (Keep.of_wr W2) ((A0.set W2).congr fun i _ => by by_cases q : i = jn <;> simp [q]) vm0 k0 T2 _ X2 hV (by rw [W2.size]; exact hk) hZ ho (Fr.snoc X2 N hge) e2
  exact ⟨U, o, st2 _ h1, r⟩
theorem r_arraylength {a : Addr} {ty : FieldType} {n : Nat} {f : Nat → Value} {z : Int32} (C : Cx p c meth bytes maxL ret nm) (hd : decode bytes pc = .ok (.arraylength, 1)) (hp : pc + 1 = pc') (A : IA Z h a ty n f) (hz : z.toInt = (n : Int)) (k : Run p l e R s m args below meth c Z own V n0 G h cells slots pc' ls (.int z :: st)) : Run p l e R s m args below meth c Z own V n0 G h cells slots pc ls (.ref a :: st) := by
  subst hp
  intro vm0 k0 T L X hV hk hZ ho N eT
  have hZ' : Z.Warmed39 (s.setVm vm0).vm := hZ
  obtain ⟨cl, A, r1, r2, r3⟩ := A
  obtain ⟨t1, t2⟩ := tnn hz
  obtain ⟨U, o, h1, r⟩ := k vm0 k0 T L X hV hk hZ ho N eT
  have q : cl.slots.size.toInt32 = z := len_of (by rw [r1, t2]) t1
  exact ⟨U, o, X.arraylength C.1 (by rw [eT]; exact A.1) (State.isArrayOf_alike hZ'.alike A.2.1) (g := mkF m pc ls (.ref a :: st)) rfl rfl (hb C.2.1 hd) _ (by rw [q]; exact h1), r⟩
theorem r_newarray {aty : ArrayType} {ty : FieldType} {dv : Value} (hdv : defaultValue ty = dv) {z : Int32} {n cap : Nat} (C : Cx p c meth bytes maxL ret nm) (w1 : (Jvm.Cond.arrayClass ty).before a0 Z = true) (hty : newarray.typeOf aty = ty) (hd : decode bytes pc = .ok (.newarray aty, 2)) (hp : pc + 2 = pc') (hz : z.toInt = (n : Int)) (hcap : n ≤ cap) (hbg : cap * 8 ≤ 536870912) (hc : cells + 1 ≤ R.cells) (hs : slots + cap ≤ R.slots)
    (k : ∀ (a : Addr) h', @Eq Nat a h.size → Keep h h' [] → IA Z h' a ty n (fun _ => dv) → Run p l e R s m args below meth c Z own V n0 G h' (cells + 1) (slots + cap) pc' ls (.ref a :: st)) : Run p l e R s m args below meth c Z own V n0 G h cells slots pc ls (.int z :: st) := by
  subst hp hty hdv
  intro vm0 k0 T L X hV hk hZ ho N eT
  have hZ' : Z.Warmed39 (s.setVm vm0).vm := hZ
  obtain ⟨t1, t2⟩ := tnn hz
  obtain ⟨T2, h2, k2, X2, e2, E2, A2, st2⟩ := newP X C.1 hZ' w1 eT (g := mkF m pc ls (.int z :: st)) rfl (hb C.2.1 hd) rfl t1 (cap := cap) (by rw [t2]; exact hcap) hbg hc hs
  obtain ⟨U, o, h1, r⟩ := k _ h2 rfl ((Keep.refl h []).ext E2) ⟨_, A2, by rw [sz_new, t2], by have := rng32 z; omega, fun j hj => by simp [newA, t2, hj]⟩ vm0 k0 T2 L X2 hV (Nat.le_trans hk E2.1) hZ ho N e2
  exact ⟨U, o, st2 _ h1, r⟩
theorem Run.mono {ce sl : Nat} (k : Run p l e R s m args below meth c Z own V n0 G h ce sl pc ls st) (h1 : cells ≤ ce) (h2 : slots ≤ sl) : Run p l e R s m args below meth c Z own V n0 G h cells slots pc ls st :=
  fun vm0 k0 T L X => k vm0 k0 T L (X.mono h1 h2)
/-- where roads join: the goal from the join on, said once -/
theorem join {α : Type} (Φ : α → Prop) (hJ : α → Heap) (ce sl pcJ : Nat) (lsJ : α → Array Slot) (stJ : α → List Value) (j : ∀ x, Φ x → Run p l e R s m args below meth c Z own V n0 G (hJ x) ce sl pcJ (lsJ x) (stJ x)) (k : (∀ x, Φ x → Run p l e R s m args below meth c Z own V n0 G (hJ x) ce sl pcJ (lsJ x) (stJ x)) → Run p l e R s m args below meth c Z own V n0 G h cells slots pc ls st) : Run p l e R s m args below meth c Z own V n0 G h cells slots pc ls st := k j
/-- a loop: by a measure -/
theorem loop {α : Type} (μ : α → Nat) (Φ : α → Prop) (hJ : α → Heap) (ce sl pcJ : Nat) (lsJ : α → Array Slot) (stJ : α → List Value)
    (body : ∀ x, Φ x → (∀ x', Φ x' → μ x' < μ x → Run p l e R s m args below meth c Z own V n0 G (hJ x') ce sl pcJ (lsJ x') (stJ x')) → Run p l e R s m args below meth c Z own V n0 G (hJ x) ce sl pcJ (lsJ x) (stJ x)) (k : (∀ x, Φ x → Run p l e R s m args below meth c Z own V n0 G (hJ x) ce sl pcJ (lsJ x) (stJ x)) → Run p l e R s m args below meth c Z own V n0 G h cells slots pc ls st) : Run p l e R s m args below meth c Z own V n0 G h cells slots pc ls st := by
  refine k ?_
  have H : ∀ n x, μ x < n → Φ x → Run p l e R s m args below meth c Z own V n0 G (hJ x) ce sl pcJ (lsJ x) (stJ x) := by
    intro n
    induction n with
    | zero => intro x hx; omega
    | succ n ih => intro x hx hp; exact body x hp fun x' hp' hlt => ih x' (by omega) hp'
  exact fun x hp => H _ x (Nat.lt_succ_self _) hp
theorem xadd64 {x y : Int64} (h1 : -4611686018427387904 ≤ x.toInt + y.toInt) (h2 : x.toInt + y.toInt ≤ 4611686018427387904) : (x + y).toInt = x.toInt + y.toInt := by
  have h3 := c_ladd x y
  have h4 := rng64 (x + y)
  omega
theorem xsub64 {x y : Int64} (h1 : -4611686018427387904 ≤ x.toInt - y.toInt) (h2 : x.toInt - y.toInt ≤ 4611686018427387904) : (x - y).toInt = x.toInt - y.toInt := by
  have h3 := c_lsub x y
  have h4 := rng64 (x - y)
  omega
theorem xmul64 {x c : Int64} {k : Int} (hc : c.toInt = k) (h1 : -4611686018427387904 ≤ x.toInt * k) (h2 : x.toInt * k ≤ 4611686018427387904) : (x * c).toInt = x.toInt * k := by
  have h3 := c_lmul x c
  rw [hc] at h3
  have h4 := rng64 (x * c)
  generalize x.toInt * k = P at *
  omega
theorem xadd32 {x y : Int32} (h1 : -2147483648 ≤ x.toInt + y.toInt) (h2 : x.toInt + y.toInt < 2147483648) : (x + y).toInt = x.toInt + y.toInt := by
  have h3 := c_iadd x y
  have h4 := rng32 (x + y)
  omega
theorem xsub32 {x y : Int32} (h1 : -2147483648 ≤ x.toInt - y.toInt) (h2 : x.toInt - y.toInt < 2147483648) : (x - y).toInt = x.toInt - y.toInt := by
  have h3 := c_isub x y
  have h4 := rng32 (x - y)
  omega
theorem xl2i {x : Int64} (h1 : -2147483648 ≤ x.toInt) (h2 : x.toInt < 2147483648) : x.toInt32.toInt = x.toInt := by
  have h3 := c_l2i x
  have h4 := rng32 x.toInt32
  omega
end Kit
section Facts
theorem t0 {Z : State} {a0 : Array Value} (hw : ∀ d ∈ tables_1, d.before a0 Z = true) : (Jvm.Cond.constant "com/example/hardy_producer/hardyproducer/internal/Murmur2HashPinLaw" (8 : Nat) (2147483647 : Int32)).before a0 Z = true := hw _ (List.mem_of_getElem? (i := 0) rfl)
theorem t1 {Z : State} {a0 : Array Value} (hw : ∀ d ∈ tables_1, d.before a0 Z = true) : (Jvm.Cond.arrayClass Jvm.ClassFile.FieldType.byte).before a0 Z = true := hw _ (List.mem_of_getElem? (i := 1) rfl)
theorem t2 {Z : State} {a0 : Array Value} (hw : ∀ d ∈ tables_1, d.before a0 Z = true) : (Jvm.Cond.methodLink "com/example/hardy_producer/hardyproducer/internal/Murmur2HashPinLaw" (9 : Nat) ({ cls := "com/example/hardy_producer/hardyproducer/internal/Murmur2HashPinLaw", name := "put", desc := "([BII)V" } : Jvm.MethodName)).before a0 Z = true := hw _ (List.mem_of_getElem? (i := 2) rfl)
theorem t3 {Z : State} {a0 : Array Value} (hw : ∀ d ∈ tables_1, d.before a0 Z = true) : (Jvm.Cond.static ({ cls := "com/example/hardy_producer/hardyproducer/internal/Murmur2HashPinLaw", name := "put", desc := "([BII)V" } : Jvm.MethodName)).before a0 Z = true := hw _ (List.mem_of_getElem? (i := 3) rfl)
theorem t4 {Z : State} {a0 : Array Value} (hw : ∀ d ∈ tables_1, d.before a0 Z = true) : (Jvm.Cond.initialized "com/example/hardy_producer/hardyproducer/internal/Murmur2HashPinLaw").before a0 Z = true := hw _ (List.mem_of_getElem? (i := 4) rfl)
theorem t5 {Z : State} {a0 : Array Value} (hw : ∀ d ∈ tables_1, d.before a0 Z = true) : (Jvm.Cond.code ({ cls := "com/example/hardy_producer/hardyproducer/internal/Murmur2HashPinLaw", name := "put", desc := "([BII)V" } : Jvm.MethodName) method_2_code (3 : Nat) (Option.none : Option Jvm.ClassFile.FieldType)).before a0 Z = true := hw _ (List.mem_of_getElem? (i := 5) rfl)
theorem t6 {Z : State} {a0 : Array Value} (hw : ∀ d ∈ tables_1, d.before a0 Z = true) : (Jvm.Cond.methodLink "com/example/hardy_producer/hardyproducer/internal/Murmur2HashPinLaw" (15 : Nat) ({ cls := "com/example/hardy_producer/hardyproducer/internal/Murmur2", name := "hash", desc := "([B)I" } : Jvm.MethodName)).before a0 Z = true := hw _ (List.mem_of_getElem? (i := 6) rfl)
theorem t7 {Z : State} {a0 : Array Value} (hw : ∀ d ∈ tables_1, d.before a0 Z = true) : (Jvm.Cond.static ({ cls := "com/example/hardy_producer/hardyproducer/internal/Murmur2", name := "hash", desc := "([B)I" } : Jvm.MethodName)).before a0 Z = true := hw _ (List.mem_of_getElem? (i := 7) rfl)
theorem t8 {Z : State} {a0 : Array Value} (hw : ∀ d ∈ tables_1, d.before a0 Z = true) : (Jvm.Cond.initialized "com/example/hardy_producer/hardyproducer/internal/Murmur2").before a0 Z = true := hw _ (List.mem_of_getElem? (i := 8) rfl)
theorem t9 {Z : State} {a0 : Array Value} (hw : ∀ d ∈ tables_1, d.before a0 Z = true) : (Jvm.Cond.code ({ cls := "com/example/hardy_producer/hardyproducer/internal/Murmur2", name := "hash", desc := "([B)I" } : Jvm.MethodName) prog_21_method_2_code (6 : Nat) (Option.some Jvm.ClassFile.FieldType.int)).before a0 Z = true := hw _ (List.mem_of_getElem? (i := 9) rfl)
theorem t10 {Z : State} {a0 : Array Value} (hw : ∀ d ∈ tables_1, d.before a0 Z = true) : (Jvm.Cond.constant "com/example/hardy_producer/hardyproducer/internal/Murmur2" (9 : Nat) (-1756908916 : Int32)).before a0 Z = true := hw _ (List.mem_of_getElem? (i := 10) rfl)
theorem t11 {Z : State} {a0 : Array Value} (hw : ∀ d ∈ tables_1, d.before a0 Z = true) : (Jvm.Cond.constant "com/example/hardy_producer/hardyproducer/internal/Murmur2" (10 : Nat) (1540483477 : Int32)).before a0 Z = true := hw _ (List.mem_of_getElem? (i := 11) rfl)
theorem t12 {Z : State} {a0 : Array Value} (hw : ∀ d ∈ tables_1, d.before a0 Z = true) : (Jvm.Cond.constant "com/example/hardy_producer/hardyproducer/internal/Murmur2HashPinLaw" (7 : Nat) (1540483477 : Int32)).before a0 Z = true := hw _ (List.mem_of_getElem? (i := 12) rfl)
theorem t13 {Z : State} {a0 : Array Value} (hw : ∀ d ∈ tables_1, d.before a0 Z = true) : (Jvm.Cond.constant "com/example/hardy_producer/hardyproducer/internal/Murmur2HashPinLaw" (21 : Nat) (-1756908916 : Int32)).before a0 Z = true := hw _ (List.mem_of_getElem? (i := 13) rfl)
theorem t14 {Z : State} {a0 : Array Value} (hw : ∀ d ∈ tables_1, d.before a0 Z = true) : (Jvm.Cond.methodLink "com/example/hardy_producer/hardyproducer/internal/Murmur2HashPinLaw" (22 : Nat) ({ cls := "com/example/hardy_producer/hardyproducer/internal/Murmur2HashPinLaw", name := "mix", desc := "(I)I" } : Jvm.MethodName)).before a0 Z = true := hw _ (List.mem_of_getElem? (i := 14) rfl)
theorem t15 {Z : State} {a0 : Array Value} (hw : ∀ d ∈ tables_1, d.before a0 Z = true) : (Jvm.Cond.static ({ cls := "com/example/hardy_producer/hardyproducer/internal/Murmur2HashPinLaw", name := "mix", desc := "(I)I" } : Jvm.MethodName)).before a0 Z = true := hw _ (List.mem_of_getElem? (i := 15) rfl)
theorem t16 {Z : State} {a0 : Array Value} (hw : ∀ d ∈ tables_1, d.before a0 Z = true) : (Jvm.Cond.code ({ cls := "com/example/hardy_producer/hardyproducer/internal/Murmur2HashPinLaw", name := "mix", desc := "(I)I" } : Jvm.MethodName) method_3_code (3 : Nat) (Option.some Jvm.ClassFile.FieldType.int)).before a0 Z = true := hw _ (List.mem_of_getElem? (i := 16) rfl)
theorem d1_0 : decode method_3_code 0 = .ok (.ldc 7, 2) := by decide +kernel
theorem d1_2 : decode method_3_code 2 = .ok (.istore_n 1, 1) := by decide +kernel
theorem d1_3 : decode method_3_code 3 = .ok (.iload_n 0, 1) := by decide +kernel
theorem d1_4 : decode method_3_code 4 = .ok (.iload_n 1, 1) := by decide +kernel
theorem d1_5 : decode method_3_code 5 = .ok (.imul, 1) := by decide +kernel
theorem d1_6 : decode method_3_code 6 = .ok (.istore_n 2, 1) := by decide +kernel
theorem d1_7 : decode method_3_code 7 = .ok (.iload_n 2, 1) := by decide +kernel
theorem d1_8 : decode method_3_code 8 = .ok (.iload_n 2, 1) := by decide +kernel
theorem d1_9 : decode method_3_code 9 = .ok (.bipush 24, 2) := by decide +kernel
theorem d1_11 : decode method_3_code 11 = .ok (.iushr, 1) := by decide +kernel
theorem d1_12 : decode method_3_code 12 = .ok (.ixor, 1) := by decide +kernel
theorem d1_13 : decode method_3_code 13 = .ok (.istore_n 2, 1) := by decide +kernel
theorem d1_14 : decode method_3_code 14 = .ok (.iload_n 2, 1) := by decide +kernel
theorem d1_15 : decode method_3_code 15 = .ok (.iload_n 1, 1) := by decide +kernel
theorem d1_16 : decode method_3_code 16 = .ok (.imul, 1) := by decide +kernel
theorem d1_17 : decode method_3_code 17 = .ok (.ireturn, 1) := by decide +kernel
theorem d2_0 : decode method_2_code 0 = .ok (.iload_n 1, 1) := by decide +kernel
theorem d2_1 : decode method_2_code 1 = .ok (.aload_n 0, 1) := by decide +kernel
theorem d2_2 : decode method_2_code 2 = .ok (.arraylength, 1) := by decide +kernel
theorem d2_3 : decode method_2_code 3 = .ok (.if_icmp .ge 15, 3) := by decide +kernel
theorem d2_18 : decode method_2_code 18 = .ok (.return_, 1) := by decide +kernel
theorem d2_6 : decode method_2_code 6 = .ok (.aload_n 0, 1) := by decide +kernel
theorem d2_7 : decode method_2_code 7 = .ok (.iload_n 1, 1) := by decide +kernel
theorem d2_8 : decode method_2_code 8 = .ok (.iload_n 2, 1) := by decide +kernel
theorem d2_9 : decode method_2_code 9 = .ok (.bipush 8, 2) := by decide +kernel
theorem d2_11 : decode method_2_code 11 = .ok (.iload_n 1, 1) := by decide +kernel
theorem d2_12 : decode method_2_code 12 = .ok (.iconst 3, 1) := by decide +kernel
theorem d2_13 : decode method_2_code 13 = .ok (.iand, 1) := by decide +kernel
theorem d2_14 : decode method_2_code 14 = .ok (.imul, 1) := by decide +kernel
theorem d2_15 : decode method_2_code 15 = .ok (.iushr, 1) := by decide +kernel
theorem d2_16 : decode method_2_code 16 = .ok (.i2b, 1) := by decide +kernel
theorem d2_17 : decode method_2_code 17 = .ok (.bastore, 1) := by decide +kernel
theorem d3_0 : decode prog_21_method_2_code 0 = .ok (.aload_n 0, 1) := by decide +kernel
theorem d3_1 : decode prog_21_method_2_code 1 = .ok (.arraylength, 1) := by decide +kernel
theorem d3_2 : decode prog_21_method_2_code 2 = .ok (.istore_n 1, 1) := by decide +kernel
theorem d3_3 : decode prog_21_method_2_code 3 = .ok (.iload_n 1, 1) := by decide +kernel
theorem d3_4 : decode prog_21_method_2_code 4 = .ok (.bipush (-4), 2) := by decide +kernel
theorem d3_6 : decode prog_21_method_2_code 6 = .ok (.iand, 1) := by decide +kernel
theorem d3_7 : decode prog_21_method_2_code 7 = .ok (.istore_n 2, 1) := by decide +kernel
theorem d3_8 : decode prog_21_method_2_code 8 = .ok (.ldc 9, 2) := by decide +kernel
theorem d3_10 : decode prog_21_method_2_code 10 = .ok (.iload_n 1, 1) := by decide +kernel
theorem d3_11 : decode prog_21_method_2_code 11 = .ok (.ixor, 1) := by decide +kernel
theorem d3_12 : decode prog_21_method_2_code 12 = .ok (.istore_n 3, 1) := by decide +kernel
theorem d3_13 : decode prog_21_method_2_code 13 = .ok (.iconst 0, 1) := by decide +kernel
theorem d3_14 : decode prog_21_method_2_code 14 = .ok (.istore 4, 2) := by decide +kernel
theorem d3_16 : decode prog_21_method_2_code 16 = .ok (.iload 4, 2) := by decide +kernel
theorem d3_18 : decode prog_21_method_2_code 18 = .ok (.iload_n 2, 1) := by decide +kernel
theorem d3_19 : decode prog_21_method_2_code 19 = .ok (.if_icmp .ge 95, 3) := by decide +kernel
theorem d3_22 : decode prog_21_method_2_code 22 = .ok (.aload_n 0, 1) := by decide +kernel
theorem d3_23 : decode prog_21_method_2_code 23 = .ok (.iload 4, 2) := by decide +kernel
theorem d3_25 : decode prog_21_method_2_code 25 = .ok (.baload, 1) := by decide +kernel
theorem d3_26 : decode prog_21_method_2_code 26 = .ok (.sipush 255, 3) := by decide +kernel
theorem d3_29 : decode prog_21_method_2_code 29 = .ok (.iand, 1) := by decide +kernel
theorem d3_30 : decode prog_21_method_2_code 30 = .ok (.aload_n 0, 1) := by decide +kernel
theorem d3_31 : decode prog_21_method_2_code 31 = .ok (.iload 4, 2) := by decide +kernel
theorem d3_33 : decode prog_21_method_2_code 33 = .ok (.iconst 1, 1) := by decide +kernel
theorem d3_34 : decode prog_21_method_2_code 34 = .ok (.iadd, 1) := by decide +kernel
theorem d3_35 : decode prog_21_method_2_code 35 = .ok (.baload, 1) := by decide +kernel
theorem d3_36 : decode prog_21_method_2_code 36 = .ok (.sipush 255, 3) := by decide +kernel
theorem d3_39 : decode prog_21_method_2_code 39 = .ok (.iand, 1) := by decide +kernel
theorem d3_40 : decode prog_21_method_2_code 40 = .ok (.bipush 8, 2) := by decide +kernel
theorem d3_42 : decode prog_21_method_2_code 42 = .ok (.ishl, 1) := by decide +kernel
theorem d3_43 : decode prog_21_method_2_code 43 = .ok (.ior, 1) := by decide +kernel
theorem d3_44 : decode prog_21_method_2_code 44 = .ok (.aload_n 0, 1) := by decide +kernel
theorem d3_45 : decode prog_21_method_2_code 45 = .ok (.iload 4, 2) := by decide +kernel
theorem d3_47 : decode prog_21_method_2_code 47 = .ok (.iconst 2, 1) := by decide +kernel
theorem d3_48 : decode prog_21_method_2_code 48 = .ok (.iadd, 1) := by decide +kernel
theorem d3_49 : decode prog_21_method_2_code 49 = .ok (.baload, 1) := by decide +kernel
theorem d3_50 : decode prog_21_method_2_code 50 = .ok (.sipush 255, 3) := by decide +kernel
theorem d3_53 : decode prog_21_method_2_code 53 = .ok (.iand, 1) := by decide +kernel
theorem d3_54 : decode prog_21_method_2_code 54 = .ok (.bipush 16, 2) := by decide +kernel
theorem d3_56 : decode prog_21_method_2_code 56 = .ok (.ishl, 1) := by decide +kernel
theorem d3_57 : decode prog_21_method_2_code 57 = .ok (.ior, 1) := by decide +kernel
theorem d3_58 : decode prog_21_method_2_code 58 = .ok (.aload_n 0, 1) := by decide +kernel
theorem d3_59 : decode prog_21_method_2_code 59 = .ok (.iload 4, 2) := by decide +kernel
theorem d3_61 : decode prog_21_method_2_code 61 = .ok (.iconst 3, 1) := by decide +kernel
theorem d3_62 : decode prog_21_method_2_code 62 = .ok (.iadd, 1) := by decide +kernel
theorem d3_63 : decode prog_21_method_2_code 63 = .ok (.baload, 1) := by decide +kernel
theorem d3_64 : decode prog_21_method_2_code 64 = .ok (.sipush 255, 3) := by decide +kernel
theorem d3_67 : decode prog_21_method_2_code 67 = .ok (.iand, 1) := by decide +kernel
theorem d3_68 : decode prog_21_method_2_code 68 = .ok (.bipush 24, 2) := by decide +kernel
theorem d3_70 : decode prog_21_method_2_code 70 = .ok (.ishl, 1) := by decide +kernel
theorem d3_71 : decode prog_21_method_2_code 71 = .ok (.ior, 1) := by decide +kernel
theorem d3_72 : decode prog_21_method_2_code 72 = .ok (.istore 5, 2) := by decide +kernel
theorem d3_74 : decode prog_21_method_2_code 74 = .ok (.iload 5, 2) := by decide +kernel
theorem d3_76 : decode prog_21_method_2_code 76 = .ok (.ldc 10, 2) := by decide +kernel
theorem d3_78 : decode prog_21_method_2_code 78 = .ok (.imul, 1) := by decide +kernel
theorem d3_79 : decode prog_21_method_2_code 79 = .ok (.istore 5, 2) := by decide +kernel
theorem d3_81 : decode prog_21_method_2_code 81 = .ok (.iload 5, 2) := by decide +kernel
theorem d3_83 : decode prog_21_method_2_code 83 = .ok (.iload 5, 2) := by decide +kernel
theorem d3_85 : decode prog_21_method_2_code 85 = .ok (.bipush 24, 2) := by decide +kernel
theorem d3_87 : decode prog_21_method_2_code 87 = .ok (.iushr, 1) := by decide +kernel
theorem d3_88 : decode prog_21_method_2_code 88 = .ok (.ixor, 1) := by decide +kernel
theorem d3_89 : decode prog_21_method_2_code 89 = .ok (.istore 5, 2) := by decide +kernel
theorem d3_91 : decode prog_21_method_2_code 91 = .ok (.iload 5, 2) := by decide +kernel
theorem d3_93 : decode prog_21_method_2_code 93 = .ok (.ldc 10, 2) := by decide +kernel
theorem d3_95 : decode prog_21_method_2_code 95 = .ok (.imul, 1) := by decide +kernel
theorem d3_96 : decode prog_21_method_2_code 96 = .ok (.istore 5, 2) := by decide +kernel
theorem d3_98 : decode prog_21_method_2_code 98 = .ok (.iload_n 3, 1) := by decide +kernel
theorem d3_99 : decode prog_21_method_2_code 99 = .ok (.ldc 10, 2) := by decide +kernel
theorem d3_101 : decode prog_21_method_2_code 101 = .ok (.imul, 1) := by decide +kernel
theorem d3_102 : decode prog_21_method_2_code 102 = .ok (.istore_n 3, 1) := by decide +kernel
theorem d3_103 : decode prog_21_method_2_code 103 = .ok (.iload_n 3, 1) := by decide +kernel
theorem d3_104 : decode prog_21_method_2_code 104 = .ok (.iload 5, 2) := by decide +kernel
theorem d3_106 : decode prog_21_method_2_code 106 = .ok (.ixor, 1) := by decide +kernel
theorem d3_107 : decode prog_21_method_2_code 107 = .ok (.istore_n 3, 1) := by decide +kernel
theorem d3_108 : decode prog_21_method_2_code 108 = .ok (.iinc 4 4, 3) := by decide +kernel
theorem d3_111 : decode prog_21_method_2_code 111 = .ok (.goto (-95), 3) := by decide +kernel
theorem d3_114 : decode prog_21_method_2_code 114 = .ok (.iload_n 1, 1) := by decide +kernel
theorem d3_115 : decode prog_21_method_2_code 115 = .ok (.iload_n 2, 1) := by decide +kernel
theorem d3_116 : decode prog_21_method_2_code 116 = .ok (.isub, 1) := by decide +kernel
theorem d3_117 : decode prog_21_method_2_code 117 = .ok (.istore 4, 2) := by decide +kernel
theorem d3_119 : decode prog_21_method_2_code 119 = .ok (.iload 4, 2) := by decide +kernel
theorem d3_121 : decode prog_21_method_2_code 121 = .ok (.iconst 3, 1) := by decide +kernel
theorem d3_122 : decode prog_21_method_2_code 122 = .ok (.if_icmp .ne 18, 3) := by decide +kernel
theorem d3_140 : decode prog_21_method_2_code 140 = .ok (.iload 4, 2) := by decide +kernel
theorem d3_142 : decode prog_21_method_2_code 142 = .ok (.iconst 2, 1) := by decide +kernel
theorem d3_143 : decode prog_21_method_2_code 143 = .ok (.if_icmp .lt 18, 3) := by decide +kernel
theorem d3_161 : decode prog_21_method_2_code 161 = .ok (.iload 4, 2) := by decide +kernel
theorem d3_163 : decode prog_21_method_2_code 163 = .ok (.iconst 1, 1) := by decide +kernel
theorem d3_164 : decode prog_21_method_2_code 164 = .ok (.if_icmp .lt 18, 3) := by decide +kernel
theorem d3_182 : decode prog_21_method_2_code 182 = .ok (.iload_n 3, 1) := by decide +kernel
theorem d3_183 : decode prog_21_method_2_code 183 = .ok (.iload_n 3, 1) := by decide +kernel
theorem d3_184 : decode prog_21_method_2_code 184 = .ok (.bipush 13, 2) := by decide +kernel
theorem d3_186 : decode prog_21_method_2_code 186 = .ok (.iushr, 1) := by decide +kernel
theorem d3_187 : decode prog_21_method_2_code 187 = .ok (.ixor, 1) := by decide +kernel
theorem d3_188 : decode prog_21_method_2_code 188 = .ok (.istore_n 3, 1) := by decide +kernel
theorem d3_189 : decode prog_21_method_2_code 189 = .ok (.iload_n 3, 1) := by decide +kernel
theorem d3_190 : decode prog_21_method_2_code 190 = .ok (.ldc 10, 2) := by decide +kernel
theorem d3_192 : decode prog_21_method_2_code 192 = .ok (.imul, 1) := by decide +kernel
theorem d3_193 : decode prog_21_method_2_code 193 = .ok (.istore_n 3, 1) := by decide +kernel
theorem d3_194 : decode prog_21_method_2_code 194 = .ok (.iload_n 3, 1) := by decide +kernel
theorem d3_195 : decode prog_21_method_2_code 195 = .ok (.iload_n 3, 1) := by decide +kernel
theorem d3_196 : decode prog_21_method_2_code 196 = .ok (.bipush 15, 2) := by decide +kernel
theorem d3_198 : decode prog_21_method_2_code 198 = .ok (.iushr, 1) := by decide +kernel
theorem d3_199 : decode prog_21_method_2_code 199 = .ok (.ixor, 1) := by decide +kernel
theorem d3_200 : decode prog_21_method_2_code 200 = .ok (.istore_n 3, 1) := by decide +kernel
theorem d3_201 : decode prog_21_method_2_code 201 = .ok (.iload_n 3, 1) := by decide +kernel
theorem d3_202 : decode prog_21_method_2_code 202 = .ok (.ireturn, 1) := by decide +kernel
theorem d3_167 : decode prog_21_method_2_code 167 = .ok (.iload_n 3, 1) := by decide +kernel
theorem d3_168 : decode prog_21_method_2_code 168 = .ok (.aload_n 0, 1) := by decide +kernel
theorem d3_169 : decode prog_21_method_2_code 169 = .ok (.iload_n 2, 1) := by decide +kernel
theorem d3_170 : decode prog_21_method_2_code 170 = .ok (.baload, 1) := by decide +kernel
theorem d3_171 : decode prog_21_method_2_code 171 = .ok (.sipush 255, 3) := by decide +kernel
theorem d3_174 : decode prog_21_method_2_code 174 = .ok (.iand, 1) := by decide +kernel
theorem d3_175 : decode prog_21_method_2_code 175 = .ok (.ixor, 1) := by decide +kernel
theorem d3_176 : decode prog_21_method_2_code 176 = .ok (.istore_n 3, 1) := by decide +kernel
theorem d3_177 : decode prog_21_method_2_code 177 = .ok (.iload_n 3, 1) := by decide +kernel
theorem d3_178 : decode prog_21_method_2_code 178 = .ok (.ldc 10, 2) := by decide +kernel
theorem d3_180 : decode prog_21_method_2_code 180 = .ok (.imul, 1) := by decide +kernel
theorem d3_181 : decode prog_21_method_2_code 181 = .ok (.istore_n 3, 1) := by decide +kernel
theorem d3_146 : decode prog_21_method_2_code 146 = .ok (.iload_n 3, 1) := by decide +kernel
theorem d3_147 : decode prog_21_method_2_code 147 = .ok (.aload_n 0, 1) := by decide +kernel
theorem d3_148 : decode prog_21_method_2_code 148 = .ok (.iload_n 2, 1) := by decide +kernel
theorem d3_149 : decode prog_21_method_2_code 149 = .ok (.iconst 1, 1) := by decide +kernel
theorem d3_150 : decode prog_21_method_2_code 150 = .ok (.iadd, 1) := by decide +kernel
theorem d3_151 : decode prog_21_method_2_code 151 = .ok (.baload, 1) := by decide +kernel
theorem d3_152 : decode prog_21_method_2_code 152 = .ok (.sipush 255, 3) := by decide +kernel
theorem d3_155 : decode prog_21_method_2_code 155 = .ok (.iand, 1) := by decide +kernel
theorem d3_156 : decode prog_21_method_2_code 156 = .ok (.bipush 8, 2) := by decide +kernel
theorem d3_158 : decode prog_21_method_2_code 158 = .ok (.ishl, 1) := by decide +kernel
theorem d3_159 : decode prog_21_method_2_code 159 = .ok (.ixor, 1) := by decide +kernel
theorem d3_160 : decode prog_21_method_2_code 160 = .ok (.istore_n 3, 1) := by decide +kernel
theorem d3_125 : decode prog_21_method_2_code 125 = .ok (.iload_n 3, 1) := by decide +kernel
theorem d3_126 : decode prog_21_method_2_code 126 = .ok (.aload_n 0, 1) := by decide +kernel
theorem d3_127 : decode prog_21_method_2_code 127 = .ok (.iload_n 2, 1) := by decide +kernel
theorem d3_128 : decode prog_21_method_2_code 128 = .ok (.iconst 2, 1) := by decide +kernel
theorem d3_129 : decode prog_21_method_2_code 129 = .ok (.iadd, 1) := by decide +kernel
theorem d3_130 : decode prog_21_method_2_code 130 = .ok (.baload, 1) := by decide +kernel
theorem d3_131 : decode prog_21_method_2_code 131 = .ok (.sipush 255, 3) := by decide +kernel
theorem d3_134 : decode prog_21_method_2_code 134 = .ok (.iand, 1) := by decide +kernel
theorem d3_135 : decode prog_21_method_2_code 135 = .ok (.bipush 16, 2) := by decide +kernel
theorem d3_137 : decode prog_21_method_2_code 137 = .ok (.ishl, 1) := by decide +kernel
theorem d3_138 : decode prog_21_method_2_code 138 = .ok (.ixor, 1) := by decide +kernel
theorem d3_139 : decode prog_21_method_2_code 139 = .ok (.istore_n 3, 1) := by decide +kernel
theorem pd0 : parseMethodDescriptor "([BII)V" = some ⟨[(.array .byte), .int, .int], none⟩ := by decide +kernel
theorem pd1 : parseMethodDescriptor "([B)I" = some ⟨[(.array .byte)], some .int⟩ := by decide +kernel
theorem pd2 : parseMethodDescriptor "(I)I" = some ⟨[.int], some .int⟩ := by decide +kernel
theorem pn0 : plainName "com/example/hardy_producer/hardyproducer/internal/Murmur2HashPinLaw" = true := by first | (simp [plainName, overriddenIn]; done) | decide +kernel
theorem pn1 : plainName "com/example/hardy_producer/hardyproducer/internal/Murmur2" = true := by first | (simp [plainName, overriddenIn]; done) | decide +kernel
end Facts

theorem own_ofInt {m : Int32} {k : Int} (h : m.toInt = k) : m = Int32.ofInt k := by rw [← h, Int32.ofInt_toInt]
theorem own_n (s : Int32) : ∃ k : Nat, ((s &&& 2147483647) % 13).toInt = (k : Int) ∧ k ≤ 12 := by
  have h1 := c_mask s 2147483647 31 (by decide) (by decide)
  have h2 := c_irem (s &&& 2147483647) 13 13 (by decide)
  have h6 : ((2 ^ 31 : Nat) : Int) = 2147483648 := by decide
  rw [h6] at h1
  refine ⟨((s &&& 2147483647) % 13).toInt.toNat, ?_, ?_⟩ <;> omega
theorem own_nb (x : Int32) : nar .byte (x.toInt8.toInt32) = x.toInt8.toInt32 := by
  apply Int32.toInt_inj.mp
  have h1 := c_i2b x
  have h2 := c_i2b (x.toInt8.toInt32)
  show (x.toInt8.toInt32).toInt8.toInt32.toInt = _
  omega
theorem own_b255 (x : Int32) : x.toInt8.toInt32 &&& 255 = x &&& 255 := by
  apply Int32.toInt_inj.mp
  have h1 := c_i2b x
  have h2 := c_mask (x.toInt8.toInt32) 255 8 (by decide) (by decide)
  have h4 := c_mask x 255 8 (by decide) (by decide)
  have h3 : ((2 ^ 8 : Nat) : Int) = 256 := by decide
  rw [h3] at h2 h4
  omega
theorem own_l4 {kk : Int32} {k : Nat} (h : kk.toInt = (k : Int)) (hk : k ≤ 12) : (kk &&& (-4)).toInt = ((4 * (k / 4) : Nat) : Int) := by
  obtain rfl := own_ofInt h
  have q : k = 0 ∨ k = 1 ∨ k = 2 ∨ k = 3 ∨ k = 4 ∨ k = 5 ∨ k = 6 ∨ k = 7 ∨ k = 8 ∨ k = 9 ∨ k = 10 ∨ k = 11 ∨ k = 12 := by omega
  rcases q with rfl | rfl | rfl | rfl | rfl | rfl | rfl | rfl | rfl | rfl | rfl | rfl | rfl <;> decide
theorem own_bl {kk : Int32} {k : Nat} (h : kk.toInt = (k : Int)) (hk : k ≤ 12) : (XT.ushr kk 2).toInt = ((k / 4 : Nat) : Int) ∧ (kk &&& 3).toInt = ((k % 4 : Nat) : Int) := by
  obtain rfl := own_ofInt h
  have q : k = 0 ∨ k = 1 ∨ k = 2 ∨ k = 3 ∨ k = 4 ∨ k = 5 ∨ k = 6 ∨ k = 7 ∨ k = 8 ∨ k = 9 ∨ k = 10 ∨ k = 11 ∨ k = 12 := by omega
  rcases q with rfl | rfl | rfl | rfl | rfl | rfl | rfl | rfl | rfl | rfl | rfl | rfl | rfl <;> decide
theorem own_ad {p : Int32} {k : Nat} (c : Int32) (d : Nat) (h : p.toInt = (k : Int)) (hc : c.toInt = (d : Int)) (hk : k + d < 1000) : (p + c).toInt = ((k + d : Nat) : Int) := by
  have h1 := c_iadd p c
  have h2 := rng32 (p + c)
  omega
def own_W (a b c : Int32) (j : Nat) : Int32 := if j = 0 then a else if j = 1 then b else c
def own_b (a b c : Int32) (j : Nat) : Int32 := (XT.ushr (own_W a b c (j / 4)) (8 * (Int32.ofNat j &&& 3))).toInt8.toInt32
def own_mix (x : Int32) : Int32 := ((x * (1540483477 : Int32)) ^^^ XT.ushr (x * (1540483477 : Int32)) 24) * (1540483477 : Int32)
def own_blk (a b c kk : Int32) : Nat → Int32
  | 0 => (-1756908916 : Int32) ^^^ kk
  | j + 1 => (own_blk a b c kk j * (1540483477 : Int32)) ^^^ own_mix (own_W a b c j)
def own_f1 (x : Int32) : Int32 := x ^^^ XT.ushr x 13
def own_f2 (x : Int32) : Int32 := x ^^^ XT.ushr x 15
def own_fin (x : Int32) : Int32 := own_f2 (own_f1 x * (1540483477 : Int32))
def own_mask (t : Nat) : Int32 := if t = 1 then 255 else if t = 2 then 65535 else 16777215
def own_tail (h w : Int32) (t : Nat) : Int32 := if t = 0 then h else (h ^^^ (w &&& own_mask t)) * (1540483477 : Int32)
def own_res (a b c kk : Int32) (k : Nat) : Int32 := own_fin (own_tail (own_blk a b c kk (k / 4)) (own_W a b c (k / 4)) (k % 4))
theorem own_ext {x y : Int32} (h : ∀ i, i < 32 → x.toBitVec.getLsbD i = y.toBitVec.getLsbD i) : x = y := Int32.toBitVec_inj.mp (BitVec.eq_of_getLsbD_eq fun i hi => h i hi)
theorem own_c255 : ∀ i, i < 32 → (255 : Int32).toBitVec.getLsbD i = decide (i < 8) := by decide
theorem own_c16 : ∀ i, i < 32 → (65535 : Int32).toBitVec.getLsbD i = decide (i < 16) := by decide
theorem own_c24 : ∀ i, i < 32 → (16777215 : Int32).toBitVec.getLsbD i = decide (i < 24) := by decide
theorem own_and (x y : Int32) (i : Nat) : (x &&& y).toBitVec.getLsbD i = (x.toBitVec.getLsbD i && y.toBitVec.getLsbD i) := BitVec.getLsbD_and
theorem own_xor (x y : Int32) (i : Nat) : (x ^^^ y).toBitVec.getLsbD i = (x.toBitVec.getLsbD i ^^ y.toBitVec.getLsbD i) := BitVec.getLsbD_xor
theorem own_or (x y : Int32) (i : Nat) : (x ||| y).toBitVec.getLsbD i = (x.toBitVec.getLsbD i || y.toBitVec.getLsbD i) := BitVec.getLsbD_or
theorem own_B0 (w : Int32) (i : Nat) (hi : i < 32) : ((XT.ushr w (8 * ((0 : Int32) &&& 3))) &&& 255).toBitVec.getLsbD i = (decide (i < 8) && w.toBitVec.getLsbD i) := by
  rw [own_and, own_c255 i hi, show (XT.ushr w (8 * ((0 : Int32) &&& 3))).toBitVec = w.toBitVec >>> 0 from rfl, BitVec.getLsbD_ushiftRight, Nat.zero_add, Bool.and_comm]
theorem own_B1 (w : Int32) (i : Nat) (hi : i < 32) : (((XT.ushr w (8 * ((1 : Int32) &&& 3))) &&& 255) <<< ((8 : Int32) &&& 31)).toBitVec.getLsbD i = (decide (8 ≤ i ∧ i < 16) && w.toBitVec.getLsbD i) := by
  rw [show (((XT.ushr w (8 * ((1 : Int32) &&& 3))) &&& 255) <<< ((8 : Int32) &&& 31)).toBitVec = ((XT.ushr w (8 * ((1 : Int32) &&& 3))) &&& 255).toBitVec <<< 8 from rfl, BitVec.getLsbD_shiftLeft]
  by_cases h : 8 ≤ i
  · rw [own_and, own_c255 (i - 8) (by omega), show (XT.ushr w (8 * ((1 : Int32) &&& 3))).toBitVec = w.toBitVec >>> 8 from rfl, BitVec.getLsbD_ushiftRight, show 8 + (i - 8) = i by omega]
    by_cases h2 : i < 16
    · have h3 : i - 8 < 8 := by omega
      have h4 : ¬ i < 8 := by omega
      simp [h, h2, h3, h4, hi]
    · have h3 : ¬ i - 8 < 8 := by omega
      simp [h2, h3]
  · have h4 : i < 8 := by omega
    simp [h, h4]
theorem own_B2 (w : Int32) (i : Nat) (hi : i < 32) : (((XT.ushr w (8 * ((2 : Int32) &&& 3))) &&& 255) <<< ((16 : Int32) &&& 31)).toBitVec.getLsbD i = (decide (16 ≤ i ∧ i < 24) && w.toBitVec.getLsbD i) := by
  rw [show (((XT.ushr w (8 * ((2 : Int32) &&& 3))) &&& 255) <<< ((16 : Int32) &&& 31)).toBitVec = ((XT.ushr w (8 * ((2 : Int32) &&& 3))) &&& 255).toBitVec <<< 16 from rfl, BitVec.getLsbD_shiftLeft]
  by_cases h : 16 ≤ i
  · rw [own_and, own_c255 (i - 16) (by omega), show (XT.ushr w (8 * ((2 : Int32) &&& 3))).toBitVec = w.toBitVec >>> 16 from rfl, BitVec.getLsbD_ushiftRight, show 16 + (i - 16) = i by omega]
    by_cases h2 : i < 24
    · have h3 : i - 16 < 8 := by omega
      have h4 : ¬ i < 16 := by omega
      simp [h, h2, h3, h4, hi]
    · have h3 : ¬ i - 16 < 8 := by omega
      simp [h2, h3]
  · have h4 : i < 16 := by omega
    simp [h, h4]
theorem own_B3 (w : Int32) (i : Nat) (hi : i < 32) : (((XT.ushr w (8 * ((3 : Int32) &&& 3))) &&& 255) <<< ((24 : Int32) &&& 31)).toBitVec.getLsbD i = (decide (24 ≤ i ∧ i < 32) && w.toBitVec.getLsbD i) := by
  rw [show (((XT.ushr w (8 * ((3 : Int32) &&& 3))) &&& 255) <<< ((24 : Int32) &&& 31)).toBitVec = ((XT.ushr w (8 * ((3 : Int32) &&& 3))) &&& 255).toBitVec <<< 24 from rfl, BitVec.getLsbD_shiftLeft]
  by_cases h : 24 ≤ i
  · rw [own_and, own_c255 (i - 24) (by omega), show (XT.ushr w (8 * ((3 : Int32) &&& 3))).toBitVec = w.toBitVec >>> 24 from rfl, BitVec.getLsbD_ushiftRight, show 24 + (i - 24) = i by omega]
    by_cases h2 : i < 32
    · have h3 : i - 24 < 8 := by omega
      have h4 : ¬ i < 24 := by omega
      simp [h, h2, h3, h4, hi]
    · have h3 : ¬ i - 24 < 8 := by omega
      simp [h2, h3]
  · have h4 : i < 24 := by omega
    simp [h, h4]
theorem own_word (w : Int32) : ((((XT.ushr w (8 * ((0 : Int32) &&& 3))) &&& 255) ||| (((XT.ushr w (8 * ((1 : Int32) &&& 3))) &&& 255) <<< ((8 : Int32) &&& 31))) ||| (((XT.ushr w (8 * ((2 : Int32) &&& 3))) &&& 255) <<< ((16 : Int32) &&& 31))) ||| (((XT.ushr w (8 * ((3 : Int32) &&& 3))) &&& 255) <<< ((24 : Int32) &&& 31)) = w := own_ext fun i hi => by
  rw [own_or, own_or, own_or, own_B0 w i hi, own_B1 w i hi, own_B2 w i hi, own_B3 w i hi]
  cases hw : w.toBitVec.getLsbD i
  · simp
  · by_cases h1 : i < 8
    · simp [h1]
    · by_cases h2 : i < 16
      · simp [h1, h2, show 8 ≤ i by omega]
      · by_cases h3 : i < 24
        · simp [h1, h2, h3, show 16 ≤ i by omega]
        · simp [h1, h2, h3, hi, show 24 ≤ i by omega]
theorem own_t1 (h w : Int32) : h ^^^ ((XT.ushr w (8 * ((0 : Int32) &&& 3))) &&& 255) = h ^^^ (w &&& 255) := own_ext fun i hi => by
  rw [own_xor, own_xor, own_B0 w i hi, own_and, own_c255 i hi, Bool.and_comm]
theorem own_t2 (h w : Int32) : (h ^^^ (((XT.ushr w (8 * ((1 : Int32) &&& 3))) &&& 255) <<< ((8 : Int32) &&& 31))) ^^^ ((XT.ushr w (8 * ((0 : Int32) &&& 3))) &&& 255) = h ^^^ (w &&& 65535) := own_ext fun i hi => by
  rw [own_xor, own_xor, own_xor, own_B0 w i hi, own_B1 w i hi, own_and, own_c16 i hi]
  cases hw : w.toBitVec.getLsbD i
  · simp
  · by_cases h1 : i < 8
    · simp [h1, show ¬ 8 ≤ i by omega, show i < 16 by omega]
    · by_cases h2 : i < 16
      · simp [h1, h2, show 8 ≤ i by omega]
      · simp [h1, h2]
theorem own_t3 (h w : Int32) : ((h ^^^ (((XT.ushr w (8 * ((2 : Int32) &&& 3))) &&& 255) <<< ((16 : Int32) &&& 31))) ^^^ (((XT.ushr w (8 * ((1 : Int32) &&& 3))) &&& 255) <<< ((8 : Int32) &&& 31))) ^^^ ((XT.ushr w (8 * ((0 : Int32) &&& 3))) &&& 255) = h ^^^ (w &&& 16777215) := own_ext fun i hi => by
  rw [own_xor, own_xor, own_xor, own_xor, own_B0 w i hi, own_B1 w i hi, own_B2 w i hi, own_and, own_c24 i hi]
  cases hw : w.toBitVec.getLsbD i
  · simp
  · by_cases h1 : i < 8
    · simp [h1, show ¬ 8 ≤ i by omega, show ¬ 16 ≤ i by omega, show i < 24 by omega]
    · by_cases h2 : i < 16
      · simp [h1, h2, show 8 ≤ i by omega, show ¬ 16 ≤ i by omega, show i < 24 by omega]
      · by_cases h3 : i < 24
        · simp [h1, h2, h3, show 16 ≤ i by omega]
        · simp [h1, h2, h3]
theorem own_at (a b c : Int32) (j d : Nat) (hd : d < 4) (hj : j ≤ 3) : own_b a b c (4 * j + d) &&& 255 = (XT.ushr (own_W a b c j) (8 * (Int32.ofNat d &&& 3))) &&& 255 := by
  unfold own_b
  rw [own_b255, show (4 * j + d) / 4 = j by omega]
  have q : j = 0 ∨ j = 1 ∨ j = 2 ∨ j = 3 := by omega
  have r : d = 0 ∨ d = 1 ∨ d = 2 ∨ d = 3 := by omega
  rcases q with rfl | rfl | rfl | rfl <;> rcases r with rfl | rfl | rfl | rfl <;> rfl
theorem own_st {ar : Addr} {n l h i v : Int32} {s : Slot} (hs : One s) : storeLocals #[.val (.ref ar), .val (.int n), .val (.int l), .val (.int h), .val (.int i), s] 5 (.int v) = some #[.val (.ref ar), .val (.int n), .val (.int l), .val (.int h), .val (.int i), .val (.int v)] := by
  rcases hs with rfl | ⟨w, rfl, hw⟩
  · rfl
  · cases w <;> first | rfl | (simp [Value.category] at hw)
theorem own_mk {t : Int32} {r : Nat} (h : t.toInt = (r : Int)) (h1 : 1 ≤ r) (h3 : r ≤ 3) : ((1 : Int32) <<< ((8 * t) &&& 31)) - 1 = own_mask r := by
  obtain rfl := own_ofInt h
  have q : r = 1 ∨ r = 2 ∨ r = 3 := by omega
  rcases q with rfl | rfl | rfl <;> decide

set_option maxRecDepth 65536 in
set_option maxHeartbeats 40000000 in
theorem rmM (l : Launch) (Z : State) (a0 : Array Value) (hw : ∀ d ∈ tables_1, d.before a0 Z = true) (x : Int32) (h0 : Heap) (n0 : Nat)  :
    Con l Z (⟨"com/example/hardy_producer/hardyproducer/internal/Murmur2HashPinLaw", "mix", "(I)I"⟩ : MethodName) method_3_code 3 (some .int) ({ frames := 0, cells := 0, slots := 0, locals := 0 } : Room) #[(.int x)] h0 n0 (fun v h => v = some (.int (own_mix x)) ∧ h0 = h) := by
  refine Con.of_body (plainFor_of_name pn0) #[.val (.int x), .unset, .unset] (fun m => by first | (simp [entryFrame, mkF, argsToLocals, Value.category, maxLocals]; done) | rfl) ?_
  intro p e s m below meth c C
  refine r_ldc C (t12 hw) d1_0 (pc' := 2) rfl ?_
  refine r_istore_n C d1_2 (pc' := 3) rfl (ls' := #[.val (.int x), .val (.int (1540483477 : Int32)), .unset]) rfl ?_
  refine r_iload_n C d1_3 (pc' := 4) rfl rfl ?_
  refine r_iload_n C d1_4 (pc' := 5) rfl rfl ?_
  refine r_imul C d1_5 (pc' := 6) rfl (z := (x * (1540483477 : Int32))) rfl ?_
  refine r_istore_n C d1_6 (pc' := 7) rfl (ls' := #[.val (.int x), .val (.int (1540483477 : Int32)), .val (.int (x * (1540483477 : Int32)))]) rfl ?_
  refine r_iload_n C d1_7 (pc' := 8) rfl rfl ?_
  refine r_iload_n C d1_8 (pc' := 9) rfl rfl ?_
  refine r_bipush C d1_9 (pc' := 11) rfl (z := (24 : Int32)) rfl ?_
  refine r_iushr C d1_11 (pc' := 12) rfl (z := (XT.ushr (x * (1540483477 : Int32)) (24 : Int32))) rfl ?_
  refine r_ixor C d1_12 (pc' := 13) rfl (z := ((x * (1540483477 : Int32)) ^^^ (XT.ushr (x * (1540483477 : Int32)) (24 : Int32)))) rfl ?_
  refine r_istore_n C d1_13 (pc' := 14) rfl (ls' := #[.val (.int x), .val (.int (1540483477 : Int32)), .val (.int ((x * (1540483477 : Int32)) ^^^ (XT.ushr (x * (1540483477 : Int32)) (24 : Int32))))]) rfl ?_
  refine r_iload_n C d1_14 (pc' := 15) rfl rfl ?_
  refine r_iload_n C d1_15 (pc' := 16) rfl rfl ?_
  refine r_imul C d1_16 (pc' := 17) rfl (z := (((x * (1540483477 : Int32)) ^^^ (XT.ushr (x * (1540483477 : Int32)) (24 : Int32))) * (1540483477 : Int32))) rfl ?_
  exact r_ireturn C d1_17 ⟨rfl, rfl⟩ (by decide) (by decide)
set_option maxRecDepth 65536 in
set_option maxHeartbeats 40000000 in
theorem rmP (l : Launch) (Z : State) (a0 : Array Value) (hw : ∀ d ∈ tables_1, d.before a0 Z = true) (ar : Addr) (i : Int32) (wd : Int32) (kk : Int32) (k ii : Nat) (f : Nat → Int32) (h0 : Heap) (n0 : Nat) (Z0 : n0 ≤ h0.size) (ge_ar : n0 ≤ ar) (A_ar : IA Z h0 ar .byte k (fun j => .int (f j))) (hi : i.toInt = (ii : Int)) (hk : kk.toInt = (k : Int)) :
    Con l Z (⟨"com/example/hardy_producer/hardyproducer/internal/Murmur2HashPinLaw", "put", "([BII)V"⟩ : MethodName) method_2_code 3 none ({ frames := 0, cells := 0, slots := 0, locals := 0 } : Room) #[(.ref ar), (.int i), (.int wd)] h0 n0 (fun v h => v = none ∧ Keep h0 h [ar] ∧ ∃ g : Nat → Int32, IA Z h ar .byte k (fun j => .int (g j)) ∧ (∀ j, j ≠ ii → g j = f j) ∧ (ii < k → g ii = (XT.ushr wd (8 * (i &&& 3))).toInt8.toInt32)) := by
  refine Con.of_body (plainFor_of_name pn0) #[.val (.ref ar), .val (.int i), .val (.int wd)] (fun m => by first | (simp [entryFrame, mkF, argsToLocals, Value.category, maxLocals]; done) | rfl) ?_
  intro p e s m below meth c C
  refine r_iload_n C d2_0 (pc' := 1) rfl rfl ?_
  refine r_aload_n C d2_1 (pc' := 2) rfl rfl rfl ?_
  refine r_arraylength C d2_2 (pc' := 3) rfl A_ar (z := kk) hk ?_
  refine r_icmpge C d2_3 (pcT := 18) (pcF := 6) (by decide) rfl ?_ ?_
  · intro c3
    rw [hi, hk] at c3
    exact r_return0 C d2_18 ⟨rfl, Keep.refl _ _, f, A_ar, fun j _ => rfl, fun q => by omega⟩ (by decide) (by decide)
  · intro c3
    rw [hi, hk] at c3
    refine r_aload_n C d2_6 (pc' := 7) rfl rfl rfl ?_
    refine r_iload_n C d2_7 (pc' := 8) rfl rfl ?_
    refine r_iload_n C d2_8 (pc' := 9) rfl rfl ?_
    refine r_bipush C d2_9 (pc' := 11) rfl (z := (8 : Int32)) rfl ?_
    refine r_iload_n C d2_11 (pc' := 12) rfl rfl ?_
    refine r_iconst C d2_12 (pc' := 13) rfl (z := (3 : Int32)) rfl ?_
    refine r_iand C d2_13 (pc' := 14) rfl (z := (i &&& (3 : Int32))) rfl ?_
    refine r_imul C d2_14 (pc' := 15) rfl (z := ((8 : Int32) * (i &&& (3 : Int32)))) rfl ?_
    refine r_iushr C d2_15 (pc' := 16) rfl (z := (XT.ushr wd ((8 : Int32) * (i &&& (3 : Int32))))) rfl ?_
    refine r_i2b C d2_16 (pc' := 17) rfl (z := (((XT.ushr wd ((8 : Int32) * (i &&& (3 : Int32))))).toInt8.toInt32)) rfl ?_
    refine r_bastore C d2_17 (pc' := 18) rfl A_ar (jn := ii) hi (by omega) ge_ar ?_
    intro h1 K1 A_ar
    have Z0 := Nat.le_trans Z0 K1.1
    have A_ar : IA Z h1 ar .byte k (fun zj => .int ((fun zi => if zi = ii then (((XT.ushr wd ((8 : Int32) * (i &&& (3 : Int32))))).toInt8.toInt32) else f zi) zj)) := A_ar.congr (fun j _ => by simp only [own_nb])
    exact r_return0 C d2_18 ⟨rfl, K1, _, A_ar, fun j q => if_neg q, fun _ => if_pos rfl⟩ (by decide) (by decide)
set_option maxRecDepth 65536 in
set_option maxHeartbeats 40000000 in
theorem rmH (l : Launch) (Z : State) (a0 : Array Value) (hw : ∀ d ∈ tables_1, d.before a0 Z = true) (ar : Addr) (a b c1 kk : Int32) (k : Nat) (f : Nat → Int32) (h0 : Heap) (n0 : Nat) (A_ar : IA Z h0 ar .byte k (fun j => .int (f j))) (hkk : kk.toInt = (k : Int)) (hk : k ≤ 12) (hf : ∀ j, j < k → f j = own_b a b c1 j) :
    Con l Z (⟨"com/example/hardy_producer/hardyproducer/internal/Murmur2", "hash", "([B)I"⟩ : MethodName) prog_21_method_2_code 6 (some .int) ({ frames := 0, cells := 0, slots := 0, locals := 0 } : Room) #[(.ref ar)] h0 n0 (fun v h => v = some (.int (own_res a b c1 kk k)) ∧ h0 = h) := by
  refine Con.of_body (plainFor_of_name pn1) #[.val (.ref ar), .unset, .unset, .unset, .unset, .unset] (fun m => by first | (simp [entryFrame, mkF, argsToLocals, Value.category, maxLocals]; done) | rfl) ?_
  intro p e s m below meth c C
  have hl4 := own_l4 hkk hk
  obtain ⟨l4, el4⟩ : ∃ q : Int32, kk &&& (-4) = q := ⟨_, rfl⟩
  rw [el4] at hl4
  refine r_aload_n C d3_0 (pc' := 1) rfl rfl rfl ?_
  refine r_arraylength C d3_1 (pc' := 2) rfl A_ar (z := kk) hkk ?_
  refine r_istore_n C d3_2 (pc' := 3) rfl (ls' := #[.val (.ref ar), .val (.int kk), .unset, .unset, .unset, .unset]) rfl ?_
  refine r_iload_n C d3_3 (pc' := 4) rfl rfl ?_
  refine r_bipush C d3_4 (pc' := 6) rfl (z := ((-4) : Int32)) rfl ?_
  refine r_iand C d3_6 (pc' := 7) rfl (z := l4) el4 ?_
  refine r_istore_n C d3_7 (pc' := 8) rfl (ls' := #[.val (.ref ar), .val (.int kk), .val (.int l4), .unset, .unset, .unset]) rfl ?_
  refine r_ldc C (t10 hw) d3_8 (pc' := 10) rfl ?_
  refine r_iload_n C d3_10 (pc' := 11) rfl rfl ?_
  refine r_ixor C d3_11 (pc' := 12) rfl (z := (((-1756908916) : Int32) ^^^ kk)) rfl ?_
  refine r_istore_n C d3_12 (pc' := 13) rfl (ls' := #[.val (.ref ar), .val (.int kk), .val (.int l4), .val (.int (((-1756908916) : Int32) ^^^ kk)), .unset, .unset]) rfl ?_
  refine r_iconst C d3_13 (pc' := 14) rfl (z := (0 : Int32)) rfl ?_
  refine r_istore C d3_14 (pc' := 16) rfl (ls' := #[.val (.ref ar), .val (.int kk), .val (.int l4), .val (.int (((-1756908916) : Int32) ^^^ kk)), .val (.int (0 : Int32)), .unset]) rfl ?_
  refine loop (α := Int32 × Nat × Slot) (fun jq => k / 4 - jq.2.1) (fun jq => jq.1.toInt = ((4 * jq.2.1 : Nat) : Int) ∧ jq.2.1 ≤ k / 4 ∧ One jq.2.2) (fun jq => h0) 0 0 16 (fun jq => #[.val (.ref ar), .val (.int kk), .val (.int l4), .val (.int (own_blk a b c1 kk jq.2.1)), .val (.int jq.1), jq.2.2]) (fun jq => []) ?_ ?_
  rotate_left
  · intro LP
    exact LP (0, 0, .unset) ⟨rfl, Nat.zero_le _, One.u⟩
  rintro ⟨i, j, s5⟩ ⟨hi, hj, hs5⟩ IH
  dsimp only at hi hj hs5 IH ⊢
  show Run _ _ _ _ _ _ _ _ _ _ _ _ _ _ _ h0 0 0 16 #[.val (.ref ar), .val (.int kk), .val (.int l4), .val (.int (own_blk a b c1 kk j)), .val (.int i), s5] []
  refine r_iload C d3_16 (pc' := 18) rfl rfl ?_
  refine r_iload_n C d3_18 (pc' := 19) rfl rfl ?_
  refine r_icmpge C d3_19 (pcT := 114) (pcF := 22) (by decide) rfl ?_ ?_
  rotate_left
  · intro c19
    rw [hi, hl4] at c19
    have hd : ∀ d, d < 4 → f (4 * j + d) &&& 255 = (XT.ushr (own_W a b c1 j) (8 * (Int32.ofNat d &&& 3))) &&& 255 := fun d hd => by rw [hf _ (by omega)]; exact own_at a b c1 j d hd (by omega)
    obtain ⟨wj, hwj⟩ : ∃ q : Int32, own_W a b c1 j = q := ⟨_, rfl⟩
    rw [hwj] at hd
    refine r_aload_n C d3_22 (pc' := 23) rfl rfl rfl ?_
    refine r_iload C d3_23 (pc' := 25) rfl rfl ?_
    refine r_baload C d3_25 (pc' := 26) rfl A_ar (jn := (4 * j)) hi (by omega) (x := (f (4 * j))) rfl ?_
    refine r_sipush C d3_26 (pc' := 29) rfl (z := (255 : Int32)) rfl ?_
    refine r_iand C d3_29 (pc' := 30) rfl (z := ((XT.ushr wj (8 * ((0 : Int32) &&& 3))) &&& 255)) (hd 0 (by decide)) ?_
    refine r_aload_n C d3_30 (pc' := 31) rfl rfl rfl ?_
    refine r_iload C d3_31 (pc' := 33) rfl rfl ?_
    refine r_iconst C d3_33 (pc' := 34) rfl (z := (1 : Int32)) rfl ?_
    refine r_iadd C d3_34 (pc' := 35) rfl (z := (i + (1 : Int32))) rfl ?_
    refine r_baload C d3_35 (pc' := 36) rfl A_ar (jn := (4 * j + 1)) (own_ad (1 : Int32) 1 hi (by decide) (by omega)) (by omega) (x := (f (4 * j + 1))) rfl ?_
    refine r_sipush C d3_36 (pc' := 39) rfl (z := (255 : Int32)) rfl ?_
    refine r_iand C d3_39 (pc' := 40) rfl (z := ((XT.ushr wj (8 * ((1 : Int32) &&& 3))) &&& 255)) (hd 1 (by decide)) ?_
    refine r_bipush C d3_40 (pc' := 42) rfl (z := (8 : Int32)) rfl ?_
    refine r_ishl C d3_42 (pc' := 43) rfl (z := (((XT.ushr wj (8 * ((1 : Int32) &&& 3))) &&& 255) <<< ((8 : Int32) &&& 31))) rfl ?_
    refine r_ior C d3_43 (pc' := 44) rfl (z := (((XT.ushr wj (8 * ((0 : Int32) &&& 3))) &&& 255) ||| (((XT.ushr wj (8 * ((1 : Int32) &&& 3))) &&& 255) <<< ((8 : Int32) &&& 31)))) rfl ?_
    refine r_aload_n C d3_44 (pc' := 45) rfl rfl rfl ?_
    refine r_iload C d3_45 (pc' := 47) rfl rfl ?_
    refine r_iconst C d3_47 (pc' := 48) rfl (z := (2 : Int32)) rfl ?_
    refine r_iadd C d3_48 (pc' := 49) rfl (z := (i + (2 : Int32))) rfl ?_
    refine r_baload C d3_49 (pc' := 50) rfl A_ar (jn := (4 * j + 2)) (own_ad (2 : Int32) 2 hi (by decide) (by omega)) (by omega) (x := (f (4 * j + 2))) rfl ?_
    refine r_sipush C d3_50 (pc' := 53) rfl (z := (255 : Int32)) rfl ?_
    refine r_iand C d3_53 (pc' := 54) rfl (z := ((XT.ushr wj (8 * ((2 : Int32) &&& 3))) &&& 255)) (hd 2 (by decide)) ?_
    refine r_bipush C d3_54 (pc' := 56) rfl (z := (16 : Int32)) rfl ?_
    refine r_ishl C d3_56 (pc' := 57) rfl (z := (((XT.ushr wj (8 * ((2 : Int32) &&& 3))) &&& 255) <<< ((16 : Int32) &&& 31))) rfl ?_
    refine r_ior C d3_57 (pc' := 58) rfl (z := ((((XT.ushr wj (8 * ((0 : Int32) &&& 3))) &&& 255) ||| (((XT.ushr wj (8 * ((1 : Int32) &&& 3))) &&& 255) <<< ((8 : Int32) &&& 31))) ||| (((XT.ushr wj (8 * ((2 : Int32) &&& 3))) &&& 255) <<< ((16 : Int32) &&& 31)))) rfl ?_
    refine r_aload_n C d3_58 (pc' := 59) rfl rfl rfl ?_
    refine r_iload C d3_59 (pc' := 61) rfl rfl ?_
    refine r_iconst C d3_61 (pc' := 62) rfl (z := (3 : Int32)) rfl ?_
    refine r_iadd C d3_62 (pc' := 63) rfl (z := (i + (3 : Int32))) rfl ?_
    refine r_baload C d3_63 (pc' := 64) rfl A_ar (jn := (4 * j + 3)) (own_ad (3 : Int32) 3 hi (by decide) (by omega)) (by omega) (x := (f (4 * j + 3))) rfl ?_
    refine r_sipush C d3_64 (pc' := 67) rfl (z := (255 : Int32)) rfl ?_
    refine r_iand C d3_67 (pc' := 68) rfl (z := ((XT.ushr wj (8 * ((3 : Int32) &&& 3))) &&& 255)) (hd 3 (by decide)) ?_
    refine r_bipush C d3_68 (pc' := 70) rfl (z := (24 : Int32)) rfl ?_
    refine r_ishl C d3_70 (pc' := 71) rfl (z := (((XT.ushr wj (8 * ((3 : Int32) &&& 3))) &&& 255) <<< ((24 : Int32) &&& 31))) rfl ?_
    refine r_ior C d3_71 (pc' := 72) rfl (z := wj) (own_word wj) ?_
    refine r_istore C d3_72 (pc' := 74) rfl (ls' := #[.val (.ref ar), .val (.int kk), .val (.int l4), .val (.int (own_blk a b c1 kk j)), .val (.int i), .val (.int wj)]) (own_st hs5) ?_
    refine r_iload C d3_74 (pc' := 76) rfl rfl ?_
    refine r_ldc C (t11 hw) d3_76 (pc' := 78) rfl ?_
    refine r_imul C d3_78 (pc' := 79) rfl (z := (wj * (1540483477 : Int32))) rfl ?_
    refine r_istore C d3_79 (pc' := 81) rfl (ls' := #[.val (.ref ar), .val (.int kk), .val (.int l4), .val (.int (own_blk a b c1 kk j)), .val (.int i), .val (.int (wj * (1540483477 : Int32)))]) rfl ?_
    refine r_iload C d3_81 (pc' := 83) rfl rfl ?_
    refine r_iload C d3_83 (pc' := 85) rfl rfl ?_
    refine r_bipush C d3_85 (pc' := 87) rfl (z := (24 : Int32)) rfl ?_
    refine r_iushr C d3_87 (pc' := 88) rfl (z := (XT.ushr (wj * (1540483477 : Int32)) (24 : Int32))) rfl ?_
    refine r_ixor C d3_88 (pc' := 89) rfl (z := ((wj * (1540483477 : Int32)) ^^^ (XT.ushr (wj * (1540483477 : Int32)) (24 : Int32)))) rfl ?_
    refine r_istore C d3_89 (pc' := 91) rfl (ls' := #[.val (.ref ar), .val (.int kk), .val (.int l4), .val (.int (own_blk a b c1 kk j)), .val (.int i), .val (.int ((wj * (1540483477 : Int32)) ^^^ (XT.ushr (wj * (1540483477 : Int32)) (24 : Int32))))]) rfl ?_
    refine r_iload C d3_91 (pc' := 93) rfl rfl ?_
    refine r_ldc C (t11 hw) d3_93 (pc' := 95) rfl ?_
    refine r_imul C d3_95 (pc' := 96) rfl (z := (own_mix wj)) rfl ?_
    refine r_istore C d3_96 (pc' := 98) rfl (ls' := #[.val (.ref ar), .val (.int kk), .val (.int l4), .val (.int (own_blk a b c1 kk j)), .val (.int i), .val (.int (own_mix wj))]) rfl ?_
    refine r_iload_n C d3_98 (pc' := 99) rfl rfl ?_
    refine r_ldc C (t11 hw) d3_99 (pc' := 101) rfl ?_
    refine r_imul C d3_101 (pc' := 102) rfl (z := ((own_blk a b c1 kk j) * (1540483477 : Int32))) rfl ?_
    refine r_istore_n C d3_102 (pc' := 103) rfl (ls' := #[.val (.ref ar), .val (.int kk), .val (.int l4), .val (.int ((own_blk a b c1 kk j) * (1540483477 : Int32))), .val (.int i), .val (.int (own_mix wj))]) rfl ?_
    refine r_iload_n C d3_103 (pc' := 104) rfl rfl ?_
    refine r_iload C d3_104 (pc' := 106) rfl rfl ?_
    refine r_ixor C d3_106 (pc' := 107) rfl (z := (own_blk a b c1 kk (j + 1))) (by rw [← hwj]; rfl) ?_
    refine r_istore_n C d3_107 (pc' := 108) rfl (ls' := #[.val (.ref ar), .val (.int kk), .val (.int l4), .val (.int (own_blk a b c1 kk (j + 1))), .val (.int i), .val (.int (own_mix wj))]) rfl ?_
    refine r_iinc C d3_108 (pc' := 111) rfl rfl (z := (i + (4 : Int32))) rfl (ls' := #[.val (.ref ar), .val (.int kk), .val (.int l4), .val (.int (own_blk a b c1 kk (j + 1))), .val (.int (i + (4 : Int32))), .val (.int (own_mix wj))]) rfl ?_
    refine r_goto C d3_111 (pc' := 16) (by decide) ?_
    exact IH (i + 4, j + 1, _) ⟨(own_ad (4 : Int32) 4 hi (by decide) (by omega)).trans (by dsimp only; omega), by dsimp only; omega, One.val rfl⟩ (by dsimp only; omega)
  · intro c19
    rw [hi, hl4] at c19
    obtain rfl : j = k / 4 := by omega
    have hs := c_isub kk l4
    have hr := rng32 (kk - l4)
    have ht : (kk - l4).toInt = ((k % 4 : Nat) : Int) := by omega
    have hd : ∀ d, d < 4 → 4 * (k / 4) + d < k → f (4 * (k / 4) + d) &&& 255 = (XT.ushr (own_W a b c1 (k / 4)) (8 * (Int32.ofNat d &&& 3))) &&& 255 := fun d hd hlt => by rw [hf _ hlt]; exact own_at a b c1 (k / 4) d hd (by omega)
    obtain ⟨wj, hwj⟩ : ∃ q : Int32, own_W a b c1 (k / 4) = q := ⟨_, rfl⟩
    obtain ⟨hh, hhe⟩ : ∃ q : Int32, own_blk a b c1 kk (k / 4) = q := ⟨_, rfl⟩
    rw [hwj] at hd
    rw [hhe]
    have hr4 : k % 4 = 0 ∨ k % 4 = 1 ∨ k % 4 = 2 ∨ k % 4 = 3 := by omega
    rcases hr4 with hr4 | hr4 | hr4 | hr4
    · have ht' : kk - l4 = (0 : Int32) := own_ofInt (k := 0) (by rw [ht, hr4]; rfl)
      show Run _ _ _ _ _ _ _ _ _ _ _ _ _ _ _ h0 0 0 114 #[.val (.ref ar), .val (.int kk), .val (.int l4), .val (.int hh), .val (.int i), s5] []
      refine r_iload_n C d3_114 (pc' := 115) rfl rfl ?_
      refine r_iload_n C d3_115 (pc' := 116) rfl rfl ?_
      refine r_isub C d3_116 (pc' := 117) rfl (z := (0 : Int32)) ht' ?_
      refine r_istore C d3_117 (pc' := 119) rfl (ls' := #[.val (.ref ar), .val (.int kk), .val (.int l4), .val (.int hh), .val (.int (0 : Int32)), s5]) rfl ?_
      refine r_iload C d3_119 (pc' := 121) rfl rfl ?_
      refine r_iconst C d3_121 (pc' := 122) rfl (z := (3 : Int32)) rfl ?_
      refine r_icmpne C d3_122 (pcT := 140) (pcF := 125) (by decide) rfl ?_ ?_
      rotate_left
      · intro c122
        exact absurd c122 (by decide)
      intro c122
      refine r_iload C d3_140 (pc' := 142) rfl rfl ?_
      refine r_iconst C d3_142 (pc' := 143) rfl (z := (2 : Int32)) rfl ?_
      refine r_icmplt C d3_143 (pcT := 161) (pcF := 146) (by decide) rfl ?_ ?_
      rotate_left
      · intro c143
        exact absurd c143 (by decide)
      intro c143
      refine r_iload C d3_161 (pc' := 163) rfl rfl ?_
      refine r_iconst C d3_163 (pc' := 164) rfl (z := (1 : Int32)) rfl ?_
      refine r_icmplt C d3_164 (pcT := 182) (pcF := 167) (by decide) rfl ?_ ?_
      rotate_left
      · intro c164
        exact absurd c164 (by decide)
      intro c164
      refine r_iload_n C d3_182 (pc' := 183) rfl rfl ?_
      refine r_iload_n C d3_183 (pc' := 184) rfl rfl ?_
      refine r_bipush C d3_184 (pc' := 186) rfl (z := (13 : Int32)) rfl ?_
      refine r_iushr C d3_186 (pc' := 187) rfl (z := (XT.ushr hh (13 : Int32))) rfl ?_
      refine r_ixor C d3_187 (pc' := 188) rfl (z := (own_f1 hh)) rfl ?_
      refine r_istore_n C d3_188 (pc' := 189) rfl (ls' := #[.val (.ref ar), .val (.int kk), .val (.int l4), .val (.int (own_f1 hh)), .val (.int (0 : Int32)), s5]) rfl ?_
      refine r_iload_n C d3_189 (pc' := 190) rfl rfl ?_
      refine r_ldc C (t11 hw) d3_190 (pc' := 192) rfl ?_
      refine r_imul C d3_192 (pc' := 193) rfl (z := ((own_f1 hh) * (1540483477 : Int32))) rfl ?_
      refine r_istore_n C d3_193 (pc' := 194) rfl (ls' := #[.val (.ref ar), .val (.int kk), .val (.int l4), .val (.int ((own_f1 hh) * (1540483477 : Int32))), .val (.int (0 : Int32)), s5]) rfl ?_
      refine r_iload_n C d3_194 (pc' := 195) rfl rfl ?_
      refine r_iload_n C d3_195 (pc' := 196) rfl rfl ?_
      refine r_bipush C d3_196 (pc' := 198) rfl (z := (15 : Int32)) rfl ?_
      refine r_iushr C d3_198 (pc' := 199) rfl (z := (XT.ushr ((own_f1 hh) * (1540483477 : Int32)) (15 : Int32))) rfl ?_
      refine r_ixor C d3_199 (pc' := 200) rfl (z := (own_fin hh)) rfl ?_
      refine r_istore_n C d3_200 (pc' := 201) rfl (ls' := #[.val (.ref ar), .val (.int kk), .val (.int l4), .val (.int (own_fin hh)), .val (.int (0 : Int32)), s5]) rfl ?_
      refine r_iload_n C d3_201 (pc' := 202) rfl rfl ?_
      exact r_ireturn C d3_202 ⟨by unfold own_res; rw [hr4, hwj, hhe]; rfl, rfl⟩ (by decide) (by decide)
    · have ht' : kk - l4 = (1 : Int32) := own_ofInt (k := 1) (by rw [ht, hr4]; rfl)
      show Run _ _ _ _ _ _ _ _ _ _ _ _ _ _ _ h0 0 0 114 #[.val (.ref ar), .val (.int kk), .val (.int l4), .val (.int hh), .val (.int i), s5] []
      refine r_iload_n C d3_114 (pc' := 115) rfl rfl ?_
      refine r_iload_n C d3_115 (pc' := 116) rfl rfl ?_
      refine r_isub C d3_116 (pc' := 117) rfl (z := (1 : Int32)) ht' ?_
      refine r_istore C d3_117 (pc' := 119) rfl (ls' := #[.val (.ref ar), .val (.int kk), .val (.int l4), .val (.int hh), .val (.int (1 : Int32)), s5]) rfl ?_
      refine r_iload C d3_119 (pc' := 121) rfl rfl ?_
      refine r_iconst C d3_121 (pc' := 122) rfl (z := (3 : Int32)) rfl ?_
      refine r_icmpne C d3_122 (pcT := 140) (pcF := 125) (by decide) rfl ?_ ?_
      rotate_left
      · intro c122
        exact absurd c122 (by decide)
      intro c122
      refine r_iload C d3_140 (pc' := 142) rfl rfl ?_
      refine r_iconst C d3_142 (pc' := 143) rfl (z := (2 : Int32)) rfl ?_
      refine r_icmplt C d3_143 (pcT := 161) (pcF := 146) (by decide) rfl ?_ ?_
      rotate_left
      · intro c143
        exact absurd c143 (by decide)
      intro c143
      refine r_iload C d3_161 (pc' := 163) rfl rfl ?_
      refine r_iconst C d3_163 (pc' := 164) rfl (z := (1 : Int32)) rfl ?_
      refine r_icmplt C d3_164 (pcT := 182) (pcF := 167) (by decide) rfl ?_ ?_
      · intro c164
        exact absurd c164 (by decide)
      intro c164
      refine r_iload_n C d3_167 (pc' := 168) rfl rfl ?_
      refine r_aload_n C d3_168 (pc' := 169) rfl rfl rfl ?_
      refine r_iload_n C d3_169 (pc' := 170) rfl rfl ?_
      refine r_baload C d3_170 (pc' := 171) rfl A_ar (jn := (4 * (k / 4))) hl4 (by omega) (x := (f (4 * (k / 4)))) rfl ?_
      refine r_sipush C d3_171 (pc' := 174) rfl (z := (255 : Int32)) rfl ?_
      refine r_iand C d3_174 (pc' := 175) rfl (z := ((XT.ushr wj (8 * ((0 : Int32) &&& 3))) &&& 255)) (hd 0 (by decide) (by omega)) ?_
      refine r_ixor C d3_175 (pc' := 176) rfl (z := (hh ^^^ (wj &&& 255))) (own_t1 hh wj) ?_
      refine r_istore_n C d3_176 (pc' := 177) rfl (ls' := #[.val (.ref ar), .val (.int kk), .val (.int l4), .val (.int (hh ^^^ (wj &&& 255))), .val (.int (1 : Int32)), s5]) rfl ?_
      refine r_iload_n C d3_177 (pc' := 178) rfl rfl ?_
      refine r_ldc C (t11 hw) d3_178 (pc' := 180) rfl ?_
      refine r_imul C d3_180 (pc' := 181) rfl (z := ((hh ^^^ (wj &&& 255)) * (1540483477 : Int32))) rfl ?_
      refine r_istore_n C d3_181 (pc' := 182) rfl (ls' := #[.val (.ref ar), .val (.int kk), .val (.int l4), .val (.int ((hh ^^^ (wj &&& 255)) * (1540483477 : Int32))), .val (.int (1 : Int32)), s5]) rfl ?_
      refine r_iload_n C d3_182 (pc' := 183) rfl rfl ?_
      refine r_iload_n C d3_183 (pc' := 184) rfl rfl ?_
      refine r_bipush C d3_184 (pc' := 186) rfl (z := (13 : Int32)) rfl ?_
      refine r_iushr C d3_186 (pc' := 187) rfl (z := (XT.ushr ((hh ^^^ (wj &&& 255)) * (1540483477 : Int32)) (13 : Int32))) rfl ?_
      refine r_ixor C d3_187 (pc' := 188) rfl (z := (own_f1 ((hh ^^^ (wj &&& 255)) * (1540483477 : Int32)))) rfl ?_
      refine r_istore_n C d3_188 (pc' := 189) rfl (ls' := #[.val (.ref ar), .val (.int kk), .val (.int l4), .val (.int (own_f1 ((hh ^^^ (wj &&& 255)) * (1540483477 : Int32)))), .val (.int (1 : Int32)), s5]) rfl ?_
      refine r_iload_n C d3_189 (pc' := 190) rfl rfl ?_
      refine r_ldc C (t11 hw) d3_190 (pc' := 192) rfl ?_
      refine r_imul C d3_192 (pc' := 193) rfl (z := ((own_f1 ((hh ^^^ (wj &&& 255)) * (1540483477 : Int32))) * (1540483477 : Int32))) rfl ?_
      refine r_istore_n C d3_193 (pc' := 194) rfl (ls' := #[.val (.ref ar), .val (.int kk), .val (.int l4), .val (.int ((own_f1 ((hh ^^^ (wj &&& 255)) * (1540483477 : Int32))) * (1540483477 : Int32))), .val (.int (1 : Int32)), s5]) rfl ?_
      refine r_iload_n C d3_194 (pc' := 195) rfl rfl ?_
      refine r_iload_n C d3_195 (pc' := 196) rfl rfl ?_
      refine r_bipush C d3_196 (pc' := 198) rfl (z := (15 : Int32)) rfl ?_
      refine r_iushr C d3_198 (pc' := 199) rfl (z := (XT.ushr ((own_f1 ((hh ^^^ (wj &&& 255)) * (1540483477 : Int32))) * (1540483477 : Int32)) (15 : Int32))) rfl ?_
      refine r_ixor C d3_199 (pc' := 200) rfl (z := (own_fin ((hh ^^^ (wj &&& 255)) * (1540483477 : Int32)))) rfl ?_
      refine r_istore_n C d3_200 (pc' := 201) rfl (ls' := #[.val (.ref ar), .val (.int kk), .val (.int l4), .val (.int (own_fin ((hh ^^^ (wj &&& 255)) * (1540483477 : Int32)))), .val (.int (1 : Int32)), s5]) rfl ?_
      refine r_iload_n C d3_201 (pc' := 202) rfl rfl ?_
      exact r_ireturn C d3_202 ⟨by unfold own_res; rw [hr4, hwj, hhe]; rfl, rfl⟩ (by decide) (by decide)
    · have ht' : kk - l4 = (2 : Int32) := own_ofInt (k := 2) (by rw [ht, hr4]; rfl)
      show Run _ _ _ _ _ _ _ _ _ _ _ _ _ _ _ h0 0 0 114 #[.val (.ref ar), .val (.int kk), .val (.int l4), .val (.int hh), .val (.int i), s5] []
      refine r_iload_n C d3_114 (pc' := 115) rfl rfl ?_
      refine r_iload_n C d3_115 (pc' := 116) rfl rfl ?_
      refine r_isub C d3_116 (pc' := 117) rfl (z := (2 : Int32)) ht' ?_
      refine r_istore C d3_117 (pc' := 119) rfl (ls' := #[.val (.ref ar), .val (.int kk), .val (.int l4), .val (.int hh), .val (.int (2 : Int32)), s5]) rfl ?_
      refine r_iload C d3_119 (pc' := 121) rfl rfl ?_
      refine r_iconst C d3_121 (pc' := 122) rfl (z := (3 : Int32)) rfl ?_
      refine r_icmpne C d3_122 (pcT := 140) (pcF := 125) (by decide) rfl ?_ ?_
      rotate_left
      · intro c122
        exact absurd c122 (by decide)
      intro c122
      refine r_iload C d3_140 (pc' := 142) rfl rfl ?_
      refine r_iconst C d3_142 (pc' := 143) rfl (z := (2 : Int32)) rfl ?_
      refine r_icmplt C d3_143 (pcT := 161) (pcF := 146) (by decide) rfl ?_ ?_
      · intro c143
        exact absurd c143 (by decide)
      intro c143
      refine r_iload_n C d3_146 (pc' := 147) rfl rfl ?_
      refine r_aload_n C d3_147 (pc' := 148) rfl rfl rfl ?_
      refine r_iload_n C d3_148 (pc' := 149) rfl rfl ?_
      refine r_iconst C d3_149 (pc' := 150) rfl (z := (1 : Int32)) rfl ?_
      refine r_iadd C d3_150 (pc' := 151) rfl (z := (l4 + (1 : Int32))) rfl ?_
      refine r_baload C d3_151 (pc' := 152) rfl A_ar (jn := (4 * (k / 4) + 1)) (own_ad (1 : Int32) 1 hl4 (by decide) (by omega)) (by omega) (x := (f (4 * (k / 4) + 1))) rfl ?_
      refine r_sipush C d3_152 (pc' := 155) rfl (z := (255 : Int32)) rfl ?_
      refine r_iand C d3_155 (pc' := 156) rfl (z := ((XT.ushr wj (8 * ((1 : Int32) &&& 3))) &&& 255)) (hd 1 (by decide) (by omega)) ?_
      refine r_bipush C d3_156 (pc' := 158) rfl (z := (8 : Int32)) rfl ?_
      refine r_ishl C d3_158 (pc' := 159) rfl (z := (((XT.ushr wj (8 * ((1 : Int32) &&& 3))) &&& 255) <<< ((8 : Int32) &&& 31))) rfl ?_
      refine r_ixor C d3_159 (pc' := 160) rfl (z := (hh ^^^ (((XT.ushr wj (8 * ((1 : Int32) &&& 3))) &&& 255) <<< ((8 : Int32) &&& 31)))) rfl ?_
      refine r_istore_n C d3_160 (pc' := 161) rfl (ls' := #[.val (.ref ar), .val (.int kk), .val (.int l4), .val (.int (hh ^^^ (((XT.ushr wj (8 * ((1 : Int32) &&& 3))) &&& 255) <<< ((8 : Int32) &&& 31)))), .val (.int (2 : Int32)), s5]) rfl ?_
      refine r_iload C d3_161 (pc' := 163) rfl rfl ?_
      refine r_iconst C d3_163 (pc' := 164) rfl (z := (1 : Int32)) rfl ?_
      refine r_icmplt C d3_164 (pcT := 182) (pcF := 167) (by decide) rfl ?_ ?_
      · intro c164
        exact absurd c164 (by decide)
      intro c164
      refine r_iload_n C d3_167 (pc' := 168) rfl rfl ?_
      refine r_aload_n C d3_168 (pc' := 169) rfl rfl rfl ?_
      refine r_iload_n C d3_169 (pc' := 170) rfl rfl ?_
      refine r_baload C d3_170 (pc' := 171) rfl A_ar (jn := (4 * (k / 4))) hl4 (by omega) (x := (f (4 * (k / 4)))) rfl ?_
      refine r_sipush C d3_171 (pc' := 174) rfl (z := (255 : Int32)) rfl ?_
      refine r_iand C d3_174 (pc' := 175) rfl (z := ((XT.ushr wj (8 * ((0 : Int32) &&& 3))) &&& 255)) (hd 0 (by decide) (by omega)) ?_
      refine r_ixor C d3_175 (pc' := 176) rfl (z := (hh ^^^ (wj &&& 65535))) (own_t2 hh wj) ?_
      refine r_istore_n C d3_176 (pc' := 177) rfl (ls' := #[.val (.ref ar), .val (.int kk), .val (.int l4), .val (.int (hh ^^^ (wj &&& 65535))), .val (.int (2 : Int32)), s5]) rfl ?_
      refine r_iload_n C d3_177 (pc' := 178) rfl rfl ?_
      refine r_ldc C (t11 hw) d3_178 (pc' := 180) rfl ?_
      refine r_imul C d3_180 (pc' := 181) rfl (z := ((hh ^^^ (wj &&& 65535)) * (1540483477 : Int32))) rfl ?_
      refine r_istore_n C d3_181 (pc' := 182) rfl (ls' := #[.val (.ref ar), .val (.int kk), .val (.int l4), .val (.int ((hh ^^^ (wj &&& 65535)) * (1540483477 : Int32))), .val (.int (2 : Int32)), s5]) rfl ?_
      refine r_iload_n C d3_182 (pc' := 183) rfl rfl ?_
      refine r_iload_n C d3_183 (pc' := 184) rfl rfl ?_
      refine r_bipush C d3_184 (pc' := 186) rfl (z := (13 : Int32)) rfl ?_
      refine r_iushr C d3_186 (pc' := 187) rfl (z := (XT.ushr ((hh ^^^ (wj &&& 65535)) * (1540483477 : Int32)) (13 : Int32))) rfl ?_
      refine r_ixor C d3_187 (pc' := 188) rfl (z := (own_f1 ((hh ^^^ (wj &&& 65535)) * (1540483477 : Int32)))) rfl ?_
      refine r_istore_n C d3_188 (pc' := 189) rfl (ls' := #[.val (.ref ar), .val (.int kk), .val (.int l4), .val (.int (own_f1 ((hh ^^^ (wj &&& 65535)) * (1540483477 : Int32)))), .val (.int (2 : Int32)), s5]) rfl ?_
      refine r_iload_n C d3_189 (pc' := 190) rfl rfl ?_
      refine r_ldc C (t11 hw) d3_190 (pc' := 192) rfl ?_
      refine r_imul C d3_192 (pc' := 193) rfl (z := ((own_f1 ((hh ^^^ (wj &&& 65535)) * (1540483477 : Int32))) * (1540483477 : Int32))) rfl ?_
      refine r_istore_n C d3_193 (pc' := 194) rfl (ls' := #[.val (.ref ar), .val (.int kk), .val (.int l4), .val (.int ((own_f1 ((hh ^^^ (wj &&& 65535)) * (1540483477 : Int32))) * (1540483477 : Int32))), .val (.int (2 : Int32)), s5]) rfl ?_
      refine r_iload_n C d3_194 (pc' := 195) rfl rfl ?_
      refine r_iload_n C d3_195 (pc' := 196) rfl rfl ?_
      refine r_bipush C d3_196 (pc' := 198) rfl (z := (15 : Int32)) rfl ?_
      refine r_iushr C d3_198 (pc' := 199) rfl (z := (XT.ushr ((own_f1 ((hh ^^^ (wj &&& 65535)) * (1540483477 : Int32))) * (1540483477 : Int32)) (15 : Int32))) rfl ?_
      refine r_ixor C d3_199 (pc' := 200) rfl (z := (own_fin ((hh ^^^ (wj &&& 65535)) * (1540483477 : Int32)))) rfl ?_
      refine r_istore_n C d3_200 (pc' := 201) rfl (ls' := #[.val (.ref ar), .val (.int kk), .val (.int l4), .val (.int (own_fin ((hh ^^^ (wj &&& 65535)) * (1540483477 : Int32)))), .val (.int (2 : Int32)), s5]) rfl ?_
      refine r_iload_n C d3_201 (pc' := 202) rfl rfl ?_
      exact r_ireturn C d3_202 ⟨by unfold own_res; rw [hr4, hwj, hhe]; rfl, rfl⟩ (by decide) (by decide)
    · have ht' : kk - l4 = (3 : Int32) := own_ofInt (k := 3) (by rw [ht, hr4]; rfl)
      show Run _ _ _ _ _ _ _ _ _ _ _ _ _ _ _ h0 0 0 114 #[.val (.ref ar), .val (.int kk), .val (.int l4), .val (.int hh), .val (.int i), s5] []
      refine r_iload_n C d3_114 (pc' := 115) rfl rfl ?_
      refine r_iload_n C d3_115 (pc' := 116) rfl rfl ?_
      refine r_isub C d3_116 (pc' := 117) rfl (z := (3 : Int32)) ht' ?_
      refine r_istore C d3_117 (pc' := 119) rfl (ls' := #[.val (.ref ar), .val (.int kk), .val (.int l4), .val (.int hh), .val (.int (3 : Int32)), s5]) rfl ?_
      refine r_iload C d3_119 (pc' := 121) rfl rfl ?_
      refine r_iconst C d3_121 (pc' := 122) rfl (z := (3 : Int32)) rfl ?_
      refine r_icmpne C d3_122 (pcT := 140) (pcF := 125) (by decide) rfl ?_ ?_
      · intro c122
        exact absurd rfl c122
      intro c122
      refine r_iload_n C d3_125 (pc' := 126) rfl rfl ?_
      refine r_aload_n C d3_126 (pc' := 127) rfl rfl rfl ?_
      refine r_iload_n C d3_127 (pc' := 128) rfl rfl ?_
      refine r_iconst C d3_128 (pc' := 129) rfl (z := (2 : Int32)) rfl ?_
      refine r_iadd C d3_129 (pc' := 130) rfl (z := (l4 + (2 : Int32))) rfl ?_
      refine r_baload C d3_130 (pc' := 131) rfl A_ar (jn := (4 * (k / 4) + 2)) (own_ad (2 : Int32) 2 hl4 (by decide) (by omega)) (by omega) (x := (f (4 * (k / 4) + 2))) rfl ?_
      refine r_sipush C d3_131 (pc' := 134) rfl (z := (255 : Int32)) rfl ?_
      refine r_iand C d3_134 (pc' := 135) rfl (z := ((XT.ushr wj (8 * ((2 : Int32) &&& 3))) &&& 255)) (hd 2 (by decide) (by omega)) ?_
      refine r_bipush C d3_135 (pc' := 137) rfl (z := (16 : Int32)) rfl ?_
      refine r_ishl C d3_137 (pc' := 138) rfl (z := (((XT.ushr wj (8 * ((2 : Int32) &&& 3))) &&& 255) <<< ((16 : Int32) &&& 31))) rfl ?_
      refine r_ixor C d3_138 (pc' := 139) rfl (z := (hh ^^^ (((XT.ushr wj (8 * ((2 : Int32) &&& 3))) &&& 255) <<< ((16 : Int32) &&& 31)))) rfl ?_
      refine r_istore_n C d3_139 (pc' := 140) rfl (ls' := #[.val (.ref ar), .val (.int kk), .val (.int l4), .val (.int (hh ^^^ (((XT.ushr wj (8 * ((2 : Int32) &&& 3))) &&& 255) <<< ((16 : Int32) &&& 31)))), .val (.int (3 : Int32)), s5]) rfl ?_
      refine r_iload C d3_140 (pc' := 142) rfl rfl ?_
      refine r_iconst C d3_142 (pc' := 143) rfl (z := (2 : Int32)) rfl ?_
      refine r_icmplt C d3_143 (pcT := 161) (pcF := 146) (by decide) rfl ?_ ?_
      · intro c143
        exact absurd c143 (by decide)
      intro c143
      refine r_iload_n C d3_146 (pc' := 147) rfl rfl ?_
      refine r_aload_n C d3_147 (pc' := 148) rfl rfl rfl ?_
      refine r_iload_n C d3_148 (pc' := 149) rfl rfl ?_
      refine r_iconst C d3_149 (pc' := 150) rfl (z := (1 : Int32)) rfl ?_
      refine r_iadd C d3_150 (pc' := 151) rfl (z := (l4 + (1 : Int32))) rfl ?_
      refine r_baload C d3_151 (pc' := 152) rfl A_ar (jn := (4 * (k / 4) + 1)) (own_ad (1 : Int32) 1 hl4 (by decide) (by omega)) (by omega) (x := (f (4 * (k / 4) + 1))) rfl ?_
      refine r_sipush C d3_152 (pc' := 155) rfl (z := (255 : Int32)) rfl ?_
      refine r_iand C d3_155 (pc' := 156) rfl (z := ((XT.ushr wj (8 * ((1 : Int32) &&& 3))) &&& 255)) (hd 1 (by decide) (by omega)) ?_
      refine r_bipush C d3_156 (pc' := 158) rfl (z := (8 : Int32)) rfl ?_
      refine r_ishl C d3_158 (pc' := 159) rfl (z := (((XT.ushr wj (8 * ((1 : Int32) &&& 3))) &&& 255) <<< ((8 : Int32) &&& 31))) rfl ?_
      refine r_ixor C d3_159 (pc' := 160) rfl (z := ((hh ^^^ (((XT.ushr wj (8 * ((2 : Int32) &&& 3))) &&& 255) <<< ((16 : Int32) &&& 31))) ^^^ (((XT.ushr wj (8 * ((1 : Int32) &&& 3))) &&& 255) <<< ((8 : Int32) &&& 31)))) rfl ?_
      refine r_istore_n C d3_160 (pc' := 161) rfl (ls' := #[.val (.ref ar), .val (.int kk), .val (.int l4), .val (.int ((hh ^^^ (((XT.ushr wj (8 * ((2 : Int32) &&& 3))) &&& 255) <<< ((16 : Int32) &&& 31))) ^^^ (((XT.ushr wj (8 * ((1 : Int32) &&& 3))) &&& 255) <<< ((8 : Int32) &&& 31)))), .val (.int (3 : Int32)), s5]) rfl ?_
      refine r_iload C d3_161 (pc' := 163) rfl rfl ?_
      refine r_iconst C d3_163 (pc' := 164) rfl (z := (1 : Int32)) rfl ?_
      refine r_icmplt C d3_164 (pcT := 182) (pcF := 167) (by decide) rfl ?_ ?_
      · intro c164
        exact absurd c164 (by decide)
      intro c164
      refine r_iload_n C d3_167 (pc' := 168) rfl rfl ?_
      refine r_aload_n C d3_168 (pc' := 169) rfl rfl rfl ?_
      refine r_iload_n C d3_169 (pc' := 170) rfl rfl ?_
      refine r_baload C d3_170 (pc' := 171) rfl A_ar (jn := (4 * (k / 4))) hl4 (by omega) (x := (f (4 * (k / 4)))) rfl ?_
      refine r_sipush C d3_171 (pc' := 174) rfl (z := (255 : Int32)) rfl ?_
      refine r_iand C d3_174 (pc' := 175) rfl (z := ((XT.ushr wj (8 * ((0 : Int32) &&& 3))) &&& 255)) (hd 0 (by decide) (by omega)) ?_
      refine r_ixor C d3_175 (pc' := 176) rfl (z := (hh ^^^ (wj &&& 16777215))) (own_t3 hh wj) ?_
      refine r_istore_n C d3_176 (pc' := 177) rfl (ls' := #[.val (.ref ar), .val (.int kk), .val (.int l4), .val (.int (hh ^^^ (wj &&& 16777215))), .val (.int (3 : Int32)), s5]) rfl ?_
      refine r_iload_n C d3_177 (pc' := 178) rfl rfl ?_
      refine r_ldc C (t11 hw) d3_178 (pc' := 180) rfl ?_
      refine r_imul C d3_180 (pc' := 181) rfl (z := ((hh ^^^ (wj &&& 16777215)) * (1540483477 : Int32))) rfl ?_
      refine r_istore_n C d3_181 (pc' := 182) rfl (ls' := #[.val (.ref ar), .val (.int kk), .val (.int l4), .val (.int ((hh ^^^ (wj &&& 16777215)) * (1540483477 : Int32))), .val (.int (3 : Int32)), s5]) rfl ?_
      refine r_iload_n C d3_182 (pc' := 183) rfl rfl ?_
      refine r_iload_n C d3_183 (pc' := 184) rfl rfl ?_
      refine r_bipush C d3_184 (pc' := 186) rfl (z := (13 : Int32)) rfl ?_
      refine r_iushr C d3_186 (pc' := 187) rfl (z := (XT.ushr ((hh ^^^ (wj &&& 16777215)) * (1540483477 : Int32)) (13 : Int32))) rfl ?_
      refine r_ixor C d3_187 (pc' := 188) rfl (z := (own_f1 ((hh ^^^ (wj &&& 16777215)) * (1540483477 : Int32)))) rfl ?_
      refine r_istore_n C d3_188 (pc' := 189) rfl (ls' := #[.val (.ref ar), .val (.int kk), .val (.int l4), .val (.int (own_f1 ((hh ^^^ (wj &&& 16777215)) * (1540483477 : Int32)))), .val (.int (3 : Int32)), s5]) rfl ?_
      refine r_iload_n C d3_189 (pc' := 190) rfl rfl ?_
      refine r_ldc C (t11 hw) d3_190 (pc' := 192) rfl ?_
      refine r_imul C d3_192 (pc' := 193) rfl (z := ((own_f1 ((hh ^^^ (wj &&& 16777215)) * (1540483477 : Int32))) * (1540483477 : Int32))) rfl ?_
      refine r_istore_n C d3_193 (pc' := 194) rfl (ls' := #[.val (.ref ar), .val (.int kk), .val (.int l4), .val (.int ((own_f1 ((hh ^^^ (wj &&& 16777215)) * (1540483477 : Int32))) * (1540483477 : Int32))), .val (.int (3 : Int32)), s5]) rfl ?_
      refine r_iload_n C d3_194 (pc' := 195) rfl rfl ?_
      refine r_iload_n C d3_195 (pc' := 196) rfl rfl ?_
      refine r_bipush C d3_196 (pc' := 198) rfl (z := (15 : Int32)) rfl ?_
      refine r_iushr C d3_198 (pc' := 199) rfl (z := (XT.ushr ((own_f1 ((hh ^^^ (wj &&& 16777215)) * (1540483477 : Int32))) * (1540483477 : Int32)) (15 : Int32))) rfl ?_
      refine r_ixor C d3_199 (pc' := 200) rfl (z := (own_fin ((hh ^^^ (wj &&& 16777215)) * (1540483477 : Int32)))) rfl ?_
      refine r_istore_n C d3_200 (pc' := 201) rfl (ls' := #[.val (.ref ar), .val (.int kk), .val (.int l4), .val (.int (own_fin ((hh ^^^ (wj &&& 16777215)) * (1540483477 : Int32)))), .val (.int (3 : Int32)), s5]) rfl ?_
      refine r_iload_n C d3_201 (pc' := 202) rfl rfl ?_
      exact r_ireturn C d3_202 ⟨by unfold own_res; rw [hr4, hwj, hhe]; rfl, rfl⟩ (by decide) (by decide)
set_option maxRecDepth 65536 in
set_option maxHeartbeats 40000000 in
theorem rm0 (l : Launch) (Z : State) (a0 : Array Value) (hw : ∀ d ∈ tables_1, d.before a0 Z = true) (a : Int32) (b : Int32) (c1 : Int32) (se : Int32) (h0 : Heap) (n0 : Nat) (Z0 : n0 ≤ h0.size) :
    Con l Z x code maxLocals ret room_1 #[(.int a), (.int b), (.int c1), (.int se)] h0 n0 (fun v h => v = some (.int 1)) := by
  refine Con.of_body (plainFor_of_name pn0) #[.val (.int a), .val (.int b), .val (.int c1), .val (.int se), .unset, .unset, .unset, .unset, .unset, .unset, .unset, .unset, .unset] (fun m => by first | (simp [entryFrame, mkF, argsToLocals, Value.category, maxLocals]; done) | rfl) ?_
  intro p e s m below meth c C
  obtain ⟨k, hk, hk12⟩ := own_n se
  obtain ⟨nn, hnn⟩ : ∃ q : Int32, (se &&& 2147483647) % 13 = q := ⟨_, rfl⟩
  rw [hnn] at hk
  obtain ⟨hbb, htt⟩ := own_bl hk hk12
  obtain ⟨bb, ebb⟩ : ∃ q : Int32, XT.ushr nn 2 = q := ⟨_, rfl⟩
  obtain ⟨tt, ett⟩ : ∃ q : Int32, nn &&& 3 = q := ⟨_, rfl⟩
  rw [ebb] at hbb
  rw [ett] at htt
  refine r_iload_n C at_0 (pc' := 1) rfl rfl ?_
  refine r_ldc C (t0 hw) at_1 (pc' := 3) rfl ?_
  refine r_iand C at_3 (pc' := 4) rfl (z := (se &&& (2147483647 : Int32))) rfl ?_
  refine r_bipush C at_4 (pc' := 6) rfl (z := (13 : Int32)) rfl ?_
  refine r_irem C at_6 (pc' := 7) rfl (by decide) (z := nn) hnn ?_
  refine r_istore C at_7 (pc' := 9) rfl (ls' := #[.val (.int a), .val (.int b), .val (.int c1), .val (.int se), .val (.int nn), .unset, .unset, .unset, .unset, .unset, .unset, .unset, .unset]) rfl ?_
  refine r_iload C at_9 (pc' := 11) rfl rfl ?_
  refine r_newarray (ty := .byte) (dv := (.int (0 : Int32))) rfl (n := k) (cap := 12) C (t1 hw) rfl at_11 (pc' := 13) rfl hk hk12 (by decide) (by decide) (by decide) ?_
  intro ar h1 ha_ar K1 A_ar
  have ge_ar : n0 ≤ ar := Nat.le_trans Z0 (Nat.le_of_eq (Eq.symm ha_ar))
  have Z0 := Nat.le_trans Z0 K1.1
  have A_ar : IA Z h1 ar .byte k (fun zj => .int ((fun _ => (0 : Int32)) zj)) := A_ar
  have hf : ∀ j : Nat, j < 0 → j < k → (fun _ => (0 : Int32)) j = own_b a b c1 j := fun j hj => by omega
  refine r_astore C at_13 (pc' := 15) rfl rfl (ls' := #[.val (.int a), .val (.int b), .val (.int c1), .val (.int se), .val (.int nn), .val (.ref ar), .unset, .unset, .unset, .unset, .unset, .unset, .unset]) rfl ?_
  refine r_aload C at_15 (pc' := 17) rfl rfl rfl ?_
  refine r_iconst C at_17 (pc' := 18) rfl (z := (0 : Int32)) rfl ?_
  refine r_iload_n C at_18 (pc' := 19) rfl rfl ?_
  refine r_callS (y := (⟨"com/example/hardy_producer/hardyproducer/internal/Murmur2HashPinLaw", "put", "([BII)V"⟩ : MethodName)) (as := [(.ref ar), (.int (0 : Int32)), (.int a)]) (st := []) C (t2 hw) (t3 hw) (t4 hw) (t5 hw) (by decide) pd0 rfl rfl at_19 (pc' := 22) rfl rfl (W := 0) (Nat.le_of_eq rfl) (rmP l Z a0 hw ar (0 : Int32) a nn k 0 (fun _ => (0 : Int32)) h1 n0 Z0 ge_ar A_ar (by decide) hk) (by decide) (by decide) (by decide) (by decide) ?_
  rintro _ h2 ⟨rfl, K2, f0, A_ar, hg1, hg2⟩
  have Z0 := Nat.le_trans Z0 K2.1
  have hf : ∀ j : Nat, j < 1 → j < k → f0 j = own_b a b c1 j := fun j h1 h2 => by
    by_cases q : j = 0
    · subst q; exact (hg2 h2).trans rfl
    · exact (hg1 j q).trans (hf j (by omega) h2)
  show Run _ _ _ _ _ _ _ _ _ _ _ _ _ _ _ h2 1 12 22 #[.val (.int a), .val (.int b), .val (.int c1), .val (.int se), .val (.int nn), .val (.ref ar), .unset, .unset, .unset, .unset, .unset, .unset, .unset] []
  refine r_aload C at_22 (pc' := 24) rfl rfl rfl ?_
  refine r_iconst C at_24 (pc' := 25) rfl (z := (1 : Int32)) rfl ?_
  refine r_iload_n C at_25 (pc' := 26) rfl rfl ?_
  refine r_callS (y := (⟨"com/example/hardy_producer/hardyproducer/internal/Murmur2HashPinLaw", "put", "([BII)V"⟩ : MethodName)) (as := [(.ref ar), (.int (1 : Int32)), (.int a)]) (st := []) C (t2 hw) (t3 hw) (t4 hw) (t5 hw) (by decide) pd0 rfl rfl at_26 (pc' := 29) rfl rfl (W := 0) (Nat.le_of_eq rfl) (rmP l Z a0 hw ar (1 : Int32) a nn k 1 f0 h2 n0 Z0 ge_ar A_ar (by decide) hk) (by decide) (by decide) (by decide) (by decide) ?_
  rintro _ h3 ⟨rfl, K3, f1, A_ar, hg1, hg2⟩
  have Z0 := Nat.le_trans Z0 K3.1
  have hf : ∀ j : Nat, j < 2 → j < k → f1 j = own_b a b c1 j := fun j h1 h2 => by
    by_cases q : j = 1
    · subst q; exact (hg2 h2).trans rfl
    · exact (hg1 j q).trans (hf j (by omega) h2)
  show Run _ _ _ _ _ _ _ _ _ _ _ _ _ _ _ h3 1 12 29 #[.val (.int a), .val (.int b), .val (.int c1), .val (.int se), .val (.int nn), .val (.ref ar), .unset, .unset, .unset, .unset, .unset, .unset, .unset] []
  refine r_aload C at_29 (pc' := 31) rfl rfl rfl ?_
  refine r_iconst C at_31 (pc' := 32) rfl (z := (2 : Int32)) rfl ?_
  refine r_iload_n C at_32 (pc' := 33) rfl rfl ?_
  refine r_callS (y := (⟨"com/example/hardy_producer/hardyproducer/internal/Murmur2HashPinLaw", "put", "([BII)V"⟩ : MethodName)) (as := [(.ref ar), (.int (2 : Int32)), (.int a)]) (st := []) C (t2 hw) (t3 hw) (t4 hw) (t5 hw) (by decide) pd0 rfl rfl at_33 (pc' := 36) rfl rfl (W := 0) (Nat.le_of_eq rfl) (rmP l Z a0 hw ar (2 : Int32) a nn k 2 f1 h3 n0 Z0 ge_ar A_ar (by decide) hk) (by decide) (by decide) (by decide) (by decide) ?_
  rintro _ h4 ⟨rfl, K4, f2, A_ar, hg1, hg2⟩
  have Z0 := Nat.le_trans Z0 K4.1
  have hf : ∀ j : Nat, j < 3 → j < k → f2 j = own_b a b c1 j := fun j h1 h2 => by
    by_cases q : j = 2
    · subst q; exact (hg2 h2).trans rfl
    · exact (hg1 j q).trans (hf j (by omega) h2)
  show Run _ _ _ _ _ _ _ _ _ _ _ _ _ _ _ h4 1 12 36 #[.val (.int a), .val (.int b), .val (.int c1), .val (.int se), .val (.int nn), .val (.ref ar), .unset, .unset, .unset, .unset, .unset, .unset, .unset] []
  refine r_aload C at_36 (pc' := 38) rfl rfl rfl ?_
  refine r_iconst C at_38 (pc' := 39) rfl (z := (3 : Int32)) rfl ?_
  refine r_iload_n C at_39 (pc' := 40) rfl rfl ?_
  refine r_callS (y := (⟨"com/example/hardy_producer/hardyproducer/internal/Murmur2HashPinLaw", "put", "([BII)V"⟩ : MethodName)) (as := [(.ref ar), (.int (3 : Int32)), (.int a)]) (st := []) C (t2 hw) (t3 hw) (t4 hw) (t5 hw) (by decide) pd0 rfl rfl at_40 (pc' := 43) rfl rfl (W := 0) (Nat.le_of_eq rfl) (rmP l Z a0 hw ar (3 : Int32) a nn k 3 f2 h4 n0 Z0 ge_ar A_ar (by decide) hk) (by decide) (by decide) (by decide) (by decide) ?_
  rintro _ h5 ⟨rfl, K5, f3, A_ar, hg1, hg2⟩
  have Z0 := Nat.le_trans Z0 K5.1
  have hf : ∀ j : Nat, j < 4 → j < k → f3 j = own_b a b c1 j := fun j h1 h2 => by
    by_cases q : j = 3
    · subst q; exact (hg2 h2).trans rfl
    · exact (hg1 j q).trans (hf j (by omega) h2)
  show Run _ _ _ _ _ _ _ _ _ _ _ _ _ _ _ h5 1 12 43 #[.val (.int a), .val (.int b), .val (.int c1), .val (.int se), .val (.int nn), .val (.ref ar), .unset, .unset, .unset, .unset, .unset, .unset, .unset] []
  refine r_aload C at_43 (pc' := 45) rfl rfl rfl ?_
  refine r_iconst C at_45 (pc' := 46) rfl (z := (4 : Int32)) rfl ?_
  refine r_iload_n C at_46 (pc' := 47) rfl rfl ?_
  refine r_callS (y := (⟨"com/example/hardy_producer/hardyproducer/internal/Murmur2HashPinLaw", "put", "([BII)V"⟩ : MethodName)) (as := [(.ref ar), (.int (4 : Int32)), (.int b)]) (st := []) C (t2 hw) (t3 hw) (t4 hw) (t5 hw) (by decide) pd0 rfl rfl at_47 (pc' := 50) rfl rfl (W := 0) (Nat.le_of_eq rfl) (rmP l Z a0 hw ar (4 : Int32) b nn k 4 f3 h5 n0 Z0 ge_ar A_ar (by decide) hk) (by decide) (by decide) (by decide) (by decide) ?_
  rintro _ h6 ⟨rfl, K6, f4, A_ar, hg1, hg2⟩
  have Z0 := Nat.le_trans Z0 K6.1
  have hf : ∀ j : Nat, j < 5 → j < k → f4 j = own_b a b c1 j := fun j h1 h2 => by
    by_cases q : j = 4
    · subst q; exact (hg2 h2).trans rfl
    · exact (hg1 j q).trans (hf j (by omega) h2)
  show Run _ _ _ _ _ _ _ _ _ _ _ _ _ _ _ h6 1 12 50 #[.val (.int a), .val (.int b), .val (.int c1), .val (.int se), .val (.int nn), .val (.ref ar), .unset, .unset, .unset, .unset, .unset, .unset, .unset] []
  refine r_aload C at_50 (pc' := 52) rfl rfl rfl ?_
  refine r_iconst C at_52 (pc' := 53) rfl (z := (5 : Int32)) rfl ?_
  refine r_iload_n C at_53 (pc' := 54) rfl rfl ?_
  refine r_callS (y := (⟨"com/example/hardy_producer/hardyproducer/internal/Murmur2HashPinLaw", "put", "([BII)V"⟩ : MethodName)) (as := [(.ref ar), (.int (5 : Int32)), (.int b)]) (st := []) C (t2 hw) (t3 hw) (t4 hw) (t5 hw) (by decide) pd0 rfl rfl at_54 (pc' := 57) rfl rfl (W := 0) (Nat.le_of_eq rfl) (rmP l Z a0 hw ar (5 : Int32) b nn k 5 f4 h6 n0 Z0 ge_ar A_ar (by decide) hk) (by decide) (by decide) (by decide) (by decide) ?_
  rintro _ h7 ⟨rfl, K7, f5, A_ar, hg1, hg2⟩
  have Z0 := Nat.le_trans Z0 K7.1
  have hf : ∀ j : Nat, j < 6 → j < k → f5 j = own_b a b c1 j := fun j h1 h2 => by
    by_cases q : j = 5
    · subst q; exact (hg2 h2).trans rfl
    · exact (hg1 j q).trans (hf j (by omega) h2)
  show Run _ _ _ _ _ _ _ _ _ _ _ _ _ _ _ h7 1 12 57 #[.val (.int a), .val (.int b), .val (.int c1), .val (.int se), .val (.int nn), .val (.ref ar), .unset, .unset, .unset, .unset, .unset, .unset, .unset] []
  refine r_aload C at_57 (pc' := 59) rfl rfl rfl ?_
  refine r_bipush C at_59 (pc' := 61) rfl (z := (6 : Int32)) rfl ?_
  refine r_iload_n C at_61 (pc' := 62) rfl rfl ?_
  refine r_callS (y := (⟨"com/example/hardy_producer/hardyproducer/internal/Murmur2HashPinLaw", "put", "([BII)V"⟩ : MethodName)) (as := [(.ref ar), (.int (6 : Int32)), (.int b)]) (st := []) C (t2 hw) (t3 hw) (t4 hw) (t5 hw) (by decide) pd0 rfl rfl at_62 (pc' := 65) rfl rfl (W := 0) (Nat.le_of_eq rfl) (rmP l Z a0 hw ar (6 : Int32) b nn k 6 f5 h7 n0 Z0 ge_ar A_ar (by decide) hk) (by decide) (by decide) (by decide) (by decide) ?_
  rintro _ h8 ⟨rfl, K8, f6, A_ar, hg1, hg2⟩
  have Z0 := Nat.le_trans Z0 K8.1
  have hf : ∀ j : Nat, j < 7 → j < k → f6 j = own_b a b c1 j := fun j h1 h2 => by
    by_cases q : j = 6
    · subst q; exact (hg2 h2).trans rfl
    · exact (hg1 j q).trans (hf j (by omega) h2)
  show Run _ _ _ _ _ _ _ _ _ _ _ _ _ _ _ h8 1 12 65 #[.val (.int a), .val (.int b), .val (.int c1), .val (.int se), .val (.int nn), .val (.ref ar), .unset, .unset, .unset, .unset, .unset, .unset, .unset] []
  refine r_aload C at_65 (pc' := 67) rfl rfl rfl ?_
  refine r_bipush C at_67 (pc' := 69) rfl (z := (7 : Int32)) rfl ?_
  refine r_iload_n C at_69 (pc' := 70) rfl rfl ?_
  refine r_callS (y := (⟨"com/example/hardy_producer/hardyproducer/internal/Murmur2HashPinLaw", "put", "([BII)V"⟩ : MethodName)) (as := [(.ref ar), (.int (7 : Int32)), (.int b)]) (st := []) C (t2 hw) (t3 hw) (t4 hw) (t5 hw) (by decide) pd0 rfl rfl at_70 (pc' := 73) rfl rfl (W := 0) (Nat.le_of_eq rfl) (rmP l Z a0 hw ar (7 : Int32) b nn k 7 f6 h8 n0 Z0 ge_ar A_ar (by decide) hk) (by decide) (by decide) (by decide) (by decide) ?_
  rintro _ h9 ⟨rfl, K9, f7, A_ar, hg1, hg2⟩
  have Z0 := Nat.le_trans Z0 K9.1
  have hf : ∀ j : Nat, j < 8 → j < k → f7 j = own_b a b c1 j := fun j h1 h2 => by
    by_cases q : j = 7
    · subst q; exact (hg2 h2).trans rfl
    · exact (hg1 j q).trans (hf j (by omega) h2)
  show Run _ _ _ _ _ _ _ _ _ _ _ _ _ _ _ h9 1 12 73 #[.val (.int a), .val (.int b), .val (.int c1), .val (.int se), .val (.int nn), .val (.ref ar), .unset, .unset, .unset, .unset, .unset, .unset, .unset] []
  refine r_aload C at_73 (pc' := 75) rfl rfl rfl ?_
  refine r_bipush C at_75 (pc' := 77) rfl (z := (8 : Int32)) rfl ?_
  refine r_iload_n C at_77 (pc' := 78) rfl rfl ?_
  refine r_callS (y := (⟨"com/example/hardy_producer/hardyproducer/internal/Murmur2HashPinLaw", "put", "([BII)V"⟩ : MethodName)) (as := [(.ref ar), (.int (8 : Int32)), (.int c1)]) (st := []) C (t2 hw) (t3 hw) (t4 hw) (t5 hw) (by decide) pd0 rfl rfl at_78 (pc' := 81) rfl rfl (W := 0) (Nat.le_of_eq rfl) (rmP l Z a0 hw ar (8 : Int32) c1 nn k 8 f7 h9 n0 Z0 ge_ar A_ar (by decide) hk) (by decide) (by decide) (by decide) (by decide) ?_
  rintro _ h10 ⟨rfl, K10, f8, A_ar, hg1, hg2⟩
  have Z0 := Nat.le_trans Z0 K10.1
  have hf : ∀ j : Nat, j < 9 → j < k → f8 j = own_b a b c1 j := fun j h1 h2 => by
    by_cases q : j = 8
    · subst q; exact (hg2 h2).trans rfl
    · exact (hg1 j q).trans (hf j (by omega) h2)
  show Run _ _ _ _ _ _ _ _ _ _ _ _ _ _ _ h10 1 12 81 #[.val (.int a), .val (.int b), .val (.int c1), .val (.int se), .val (.int nn), .val (.ref ar), .unset, .unset, .unset, .unset, .unset, .unset, .unset] []
  refine r_aload C at_81 (pc' := 83) rfl rfl rfl ?_
  refine r_bipush C at_83 (pc' := 85) rfl (z := (9 : Int32)) rfl ?_
  refine r_iload_n C at_85 (pc' := 86) rfl rfl ?_
  refine r_callS (y := (⟨"com/example/hardy_producer/hardyproducer/internal/Murmur2HashPinLaw", "put", "([BII)V"⟩ : MethodName)) (as := [(.ref ar), (.int (9 : Int32)), (.int c1)]) (st := []) C (t2 hw) (t3 hw) (t4 hw) (t5 hw) (by decide) pd0 rfl rfl at_86 (pc' := 89) rfl rfl (W := 0) (Nat.le_of_eq rfl) (rmP l Z a0 hw ar (9 : Int32) c1 nn k 9 f8 h10 n0 Z0 ge_ar A_ar (by decide) hk) (by decide) (by decide) (by decide) (by decide) ?_
  rintro _ h11 ⟨rfl, K11, f9, A_ar, hg1, hg2⟩
  have Z0 := Nat.le_trans Z0 K11.1
  have hf : ∀ j : Nat, j < 10 → j < k → f9 j = own_b a b c1 j := fun j h1 h2 => by
    by_cases q : j = 9
    · subst q; exact (hg2 h2).trans rfl
    · exact (hg1 j q).trans (hf j (by omega) h2)
  show Run _ _ _ _ _ _ _ _ _ _ _ _ _ _ _ h11 1 12 89 #[.val (.int a), .val (.int b), .val (.int c1), .val (.int se), .val (.int nn), .val (.ref ar), .unset, .unset, .unset, .unset, .unset, .unset, .unset] []
  refine r_aload C at_89 (pc' := 91) rfl rfl rfl ?_
  refine r_bipush C at_91 (pc' := 93) rfl (z := (10 : Int32)) rfl ?_
  refine r_iload_n C at_93 (pc' := 94) rfl rfl ?_
  refine r_callS (y := (⟨"com/example/hardy_producer/hardyproducer/internal/Murmur2HashPinLaw", "put", "([BII)V"⟩ : MethodName)) (as := [(.ref ar), (.int (10 : Int32)), (.int c1)]) (st := []) C (t2 hw) (t3 hw) (t4 hw) (t5 hw) (by decide) pd0 rfl rfl at_94 (pc' := 97) rfl rfl (W := 0) (Nat.le_of_eq rfl) (rmP l Z a0 hw ar (10 : Int32) c1 nn k 10 f9 h11 n0 Z0 ge_ar A_ar (by decide) hk) (by decide) (by decide) (by decide) (by decide) ?_
  rintro _ h12 ⟨rfl, K12, f10, A_ar, hg1, hg2⟩
  have Z0 := Nat.le_trans Z0 K12.1
  have hf : ∀ j : Nat, j < 11 → j < k → f10 j = own_b a b c1 j := fun j h1 h2 => by
    by_cases q : j = 10
    · subst q; exact (hg2 h2).trans rfl
    · exact (hg1 j q).trans (hf j (by omega) h2)
  show Run _ _ _ _ _ _ _ _ _ _ _ _ _ _ _ h12 1 12 97 #[.val (.int a), .val (.int b), .val (.int c1), .val (.int se), .val (.int nn), .val (.ref ar), .unset, .unset, .unset, .unset, .unset, .unset, .unset] []
  refine r_aload C at_97 (pc' := 99) rfl rfl rfl ?_
  refine r_bipush C at_99 (pc' := 101) rfl (z := (11 : Int32)) rfl ?_
  refine r_iload_n C at_101 (pc' := 102) rfl rfl ?_
  refine r_callS (y := (⟨"com/example/hardy_producer/hardyproducer/internal/Murmur2HashPinLaw", "put", "([BII)V"⟩ : MethodName)) (as := [(.ref ar), (.int (11 : Int32)), (.int c1)]) (st := []) C (t2 hw) (t3 hw) (t4 hw) (t5 hw) (by decide) pd0 rfl rfl at_102 (pc' := 105) rfl rfl (W := 0) (Nat.le_of_eq rfl) (rmP l Z a0 hw ar (11 : Int32) c1 nn k 11 f10 h12 n0 Z0 ge_ar A_ar (by decide) hk) (by decide) (by decide) (by decide) (by decide) ?_
  rintro _ h13 ⟨rfl, K13, f11, A_ar, hg1, hg2⟩
  have Z0 := Nat.le_trans Z0 K13.1
  have hf : ∀ j : Nat, j < 12 → j < k → f11 j = own_b a b c1 j := fun j h1 h2 => by
    by_cases q : j = 11
    · subst q; exact (hg2 h2).trans rfl
    · exact (hg1 j q).trans (hf j (by omega) h2)
  show Run _ _ _ _ _ _ _ _ _ _ _ _ _ _ _ h13 1 12 105 #[.val (.int a), .val (.int b), .val (.int c1), .val (.int se), .val (.int nn), .val (.ref ar), .unset, .unset, .unset, .unset, .unset, .unset, .unset] []
  refine r_aload C at_105 (pc' := 107) rfl rfl rfl ?_
  refine r_callS (y := (⟨"com/example/hardy_producer/hardyproducer/internal/Murmur2", "hash", "([B)I"⟩ : MethodName)) (as := [(.ref ar)]) (st := []) C (t6 hw) (t7 hw) (t8 hw) (t9 hw) (by decide) pd1 rfl rfl at_107 (pc' := 110) rfl rfl (W := 0) (Nat.le_of_eq rfl) (rmH l Z a0 hw ar a b c1 nn k f11 h13 n0 A_ar hk hk12 (fun j hj => hf j (by omega) hj)) (by decide) (by decide) (by decide) (by decide) ?_
  rintro _ _ ⟨rfl, rfl⟩
  show Run _ _ _ _ _ _ _ _ _ _ _ _ _ _ _ h13 1 12 110 #[.val (.int a), .val (.int b), .val (.int c1), .val (.int se), .val (.int nn), .val (.ref ar), .unset, .unset, .unset, .unset, .unset, .unset, .unset] [(.int (own_res a b c1 nn k))]
  refine r_istore C at_110 (pc' := 112) rfl (ls' := #[.val (.int a), .val (.int b), .val (.int c1), .val (.int se), .val (.int nn), .val (.ref ar), .val (.int (own_res a b c1 nn k)), .unset, .unset, .unset, .unset, .unset, .unset]) rfl ?_
  refine r_ldc C (t12 hw) at_112 (pc' := 114) rfl ?_
  refine r_istore C at_114 (pc' := 116) rfl (ls' := #[.val (.int a), .val (.int b), .val (.int c1), .val (.int se), .val (.int nn), .val (.ref ar), .val (.int (own_res a b c1 nn k)), .val (.int (1540483477 : Int32)), .unset, .unset, .unset, .unset, .unset]) rfl ?_
  refine r_iload C at_116 (pc' := 118) rfl rfl ?_
  refine r_iconst C at_118 (pc' := 119) rfl (z := (2 : Int32)) rfl ?_
  refine r_iushr C at_119 (pc' := 120) rfl (z := bb) ebb ?_
  refine r_istore C at_120 (pc' := 122) rfl (ls' := #[.val (.int a), .val (.int b), .val (.int c1), .val (.int se), .val (.int nn), .val (.ref ar), .val (.int (own_res a b c1 nn k)), .val (.int (1540483477 : Int32)), .val (.int bb), .unset, .unset, .unset, .unset]) rfl ?_
  refine r_iload C at_122 (pc' := 124) rfl rfl ?_
  refine r_iconst C at_124 (pc' := 125) rfl (z := (3 : Int32)) rfl ?_
  refine r_iand C at_125 (pc' := 126) rfl (z := tt) ett ?_
  refine r_istore C at_126 (pc' := 128) rfl (ls' := #[.val (.int a), .val (.int b), .val (.int c1), .val (.int se), .val (.int nn), .val (.ref ar), .val (.int (own_res a b c1 nn k)), .val (.int (1540483477 : Int32)), .val (.int bb), .val (.int tt), .unset, .unset, .unset]) rfl ?_
  refine r_ldc C (t13 hw) at_128 (pc' := 130) rfl ?_
  refine r_iload C at_130 (pc' := 132) rfl rfl ?_
  refine r_ixor C at_132 (pc' := 133) rfl (z := (((-1756908916) : Int32) ^^^ nn)) rfl ?_
  refine r_istore C at_133 (pc' := 135) rfl (ls' := #[.val (.int a), .val (.int b), .val (.int c1), .val (.int se), .val (.int nn), .val (.ref ar), .val (.int (own_res a b c1 nn k)), .val (.int (1540483477 : Int32)), .val (.int bb), .val (.int tt), .val (.int (((-1756908916) : Int32) ^^^ nn)), .unset, .unset]) rfl ?_
  have hq : (-1756908916 : Int32) ^^^ nn = own_blk a b c1 nn (min (k / 4) 0) := by rw [Nat.min_zero]; rfl
  refine join (α := Int32) (fun jq => jq = own_blk a b c1 nn (min (k / 4) 1)) (fun jq => h13) 1 12 153 (fun jq => #[.val (.int a), .val (.int b), .val (.int c1), .val (.int se), .val (.int nn), .val (.ref ar), .val (.int (own_res a b c1 nn k)), .val (.int (1540483477 : Int32)), .val (.int bb), .val (.int tt), .val (.int jq), .unset, .unset]) (fun jq => []) ?_ ?_
  rotate_left
  · intro J153
    refine r_iload C at_135 (pc' := 137) rfl rfl ?_
    refine r_iconst C at_137 (pc' := 138) rfl (z := (1 : Int32)) rfl ?_
    refine r_icmplt C at_138 (pcT := 153) (pcF := 141) (by decide) rfl ?_ ?_
    · intro cc
      replace cc : bb.toInt < 1 := cc
      have e1 : min (k / 4) 1 = min (k / 4) 0 := by omega
      exact J153 _ (by rw [e1]; exact hq)
    · intro cc
      replace cc : (1 : Int) ≤ bb.toInt := cc
      have e0 : min (k / 4) 0 = 0 := by omega
      have e1 : min (k / 4) 1 = 0 + 1 := by omega
      rw [e0] at hq
      refine r_iload C at_141 (pc' := 143) rfl rfl ?_
      refine r_iload C at_143 (pc' := 145) rfl rfl ?_
      refine r_imul C at_145 (pc' := 146) rfl (z := ((((-1756908916) : Int32) ^^^ nn) * (1540483477 : Int32))) rfl ?_
      refine r_iload_n C at_146 (pc' := 147) rfl rfl ?_
      refine r_callS (y := (⟨"com/example/hardy_producer/hardyproducer/internal/Murmur2HashPinLaw", "mix", "(I)I"⟩ : MethodName)) (as := [(.int a)]) (st := [(.int ((((-1756908916) : Int32) ^^^ nn) * (1540483477 : Int32)))]) C (t14 hw) (t15 hw) (t4 hw) (t16 hw) (by decide) pd2 rfl rfl at_147 (pc' := 150) rfl rfl (W := 1) (Nat.le_of_eq rfl) (rmM l Z a0 hw a h13 n0) (by decide) (by decide) (by decide) (by decide) ?_
      rintro _ _ ⟨rfl, rfl⟩
      show Run _ _ _ _ _ _ _ _ _ _ _ _ _ _ _ h13 1 12 150 #[.val (.int a), .val (.int b), .val (.int c1), .val (.int se), .val (.int nn), .val (.ref ar), .val (.int (own_res a b c1 nn k)), .val (.int (1540483477 : Int32)), .val (.int bb), .val (.int tt), .val (.int (((-1756908916) : Int32) ^^^ nn)), .unset, .unset] [(.int (own_mix a)), (.int ((((-1756908916) : Int32) ^^^ nn) * (1540483477 : Int32)))]
      refine r_ixor C at_150 (pc' := 151) rfl (z := (((((-1756908916) : Int32) ^^^ nn) * (1540483477 : Int32)) ^^^ (own_mix a))) rfl ?_
      refine r_istore C at_151 (pc' := 153) rfl (ls' := #[.val (.int a), .val (.int b), .val (.int c1), .val (.int se), .val (.int nn), .val (.ref ar), .val (.int (own_res a b c1 nn k)), .val (.int (1540483477 : Int32)), .val (.int bb), .val (.int tt), .val (.int (((((-1756908916) : Int32) ^^^ nn) * (1540483477 : Int32)) ^^^ (own_mix a))), .unset, .unset]) rfl ?_
      exact J153 _ (by rw [e1, hq]; rfl)
  intro g0 hq
  show Run _ _ _ _ _ _ _ _ _ _ _ _ _ _ _ h13 1 12 153 #[.val (.int a), .val (.int b), .val (.int c1), .val (.int se), .val (.int nn), .val (.ref ar), .val (.int (own_res a b c1 nn k)), .val (.int (1540483477 : Int32)), .val (.int bb), .val (.int tt), .val (.int g0), .unset, .unset] []
  refine join (α := Int32) (fun jq => jq = own_blk a b c1 nn (min (k / 4) 2)) (fun jq => h13) 1 12 171 (fun jq => #[.val (.int a), .val (.int b), .val (.int c1), .val (.int se), .val (.int nn), .val (.ref ar), .val (.int (own_res a b c1 nn k)), .val (.int (1540483477 : Int32)), .val (.int bb), .val (.int tt), .val (.int jq), .unset, .unset]) (fun jq => []) ?_ ?_
  rotate_left
  · intro J171
    refine r_iload C at_153 (pc' := 155) rfl rfl ?_
    refine r_iconst C at_155 (pc' := 156) rfl (z := (2 : Int32)) rfl ?_
    refine r_icmplt C at_156 (pcT := 171) (pcF := 159) (by decide) rfl ?_ ?_
    · intro cc
      replace cc : bb.toInt < 2 := cc
      have e1 : min (k / 4) 2 = min (k / 4) 1 := by omega
      exact J171 _ (by rw [e1]; exact hq)
    · intro cc
      replace cc : (2 : Int) ≤ bb.toInt := cc
      have e0 : min (k / 4) 1 = 1 := by omega
      have e1 : min (k / 4) 2 = 1 + 1 := by omega
      rw [e0] at hq
      refine r_iload C at_159 (pc' := 161) rfl rfl ?_
      refine r_iload C at_161 (pc' := 163) rfl rfl ?_
      refine r_imul C at_163 (pc' := 164) rfl (z := (g0 * (1540483477 : Int32))) rfl ?_
      refine r_iload_n C at_164 (pc' := 165) rfl rfl ?_
      refine r_callS (y := (⟨"com/example/hardy_producer/hardyproducer/internal/Murmur2HashPinLaw", "mix", "(I)I"⟩ : MethodName)) (as := [(.int b)]) (st := [(.int (g0 * (1540483477 : Int32)))]) C (t14 hw) (t15 hw) (t4 hw) (t16 hw) (by decide) pd2 rfl rfl at_165 (pc' := 168) rfl rfl (W := 1) (Nat.le_of_eq rfl) (rmM l Z a0 hw b h13 n0) (by decide) (by decide) (by decide) (by decide) ?_
      rintro _ _ ⟨rfl, rfl⟩
      show Run _ _ _ _ _ _ _ _ _ _ _ _ _ _ _ h13 1 12 168 #[.val (.int a), .val (.int b), .val (.int c1), .val (.int se), .val (.int nn), .val (.ref ar), .val (.int (own_res a b c1 nn k)), .val (.int (1540483477 : Int32)), .val (.int bb), .val (.int tt), .val (.int g0), .unset, .unset] [(.int (own_mix b)), (.int (g0 * (1540483477 : Int32)))]
      refine r_ixor C at_168 (pc' := 169) rfl (z := ((g0 * (1540483477 : Int32)) ^^^ (own_mix b))) rfl ?_
      refine r_istore C at_169 (pc' := 171) rfl (ls' := #[.val (.int a), .val (.int b), .val (.int c1), .val (.int se), .val (.int nn), .val (.ref ar), .val (.int (own_res a b c1 nn k)), .val (.int (1540483477 : Int32)), .val (.int bb), .val (.int tt), .val (.int ((g0 * (1540483477 : Int32)) ^^^ (own_mix b))), .unset, .unset]) rfl ?_
      exact J171 _ (by rw [e1, hq]; rfl)
  intro g1 hq
  show Run _ _ _ _ _ _ _ _ _ _ _ _ _ _ _ h13 1 12 171 #[.val (.int a), .val (.int b), .val (.int c1), .val (.int se), .val (.int nn), .val (.ref ar), .val (.int (own_res a b c1 nn k)), .val (.int (1540483477 : Int32)), .val (.int bb), .val (.int tt), .val (.int g1), .unset, .unset] []
  refine join (α := Int32) (fun jq => jq = own_blk a b c1 nn (min (k / 4) 3)) (fun jq => h13) 1 12 189 (fun jq => #[.val (.int a), .val (.int b), .val (.int c1), .val (.int se), .val (.int nn), .val (.ref ar), .val (.int (own_res a b c1 nn k)), .val (.int (1540483477 : Int32)), .val (.int bb), .val (.int tt), .val (.int jq), .unset, .unset]) (fun jq => []) ?_ ?_
  rotate_left
  · intro J189
    refine r_iload C at_171 (pc' := 173) rfl rfl ?_
    refine r_iconst C at_173 (pc' := 174) rfl (z := (3 : Int32)) rfl ?_
    refine r_icmplt C at_174 (pcT := 189) (pcF := 177) (by decide) rfl ?_ ?_
    · intro cc
      replace cc : bb.toInt < 3 := cc
      have e1 : min (k / 4) 3 = min (k / 4) 2 := by omega
      exact J189 _ (by rw [e1]; exact hq)
    · intro cc
      replace cc : (3 : Int) ≤ bb.toInt := cc
      have e0 : min (k / 4) 2 = 2 := by omega
      have e1 : min (k / 4) 3 = 2 + 1 := by omega
      rw [e0] at hq
      refine r_iload C at_177 (pc' := 179) rfl rfl ?_
      refine r_iload C at_179 (pc' := 181) rfl rfl ?_
      refine r_imul C at_181 (pc' := 182) rfl (z := (g1 * (1540483477 : Int32))) rfl ?_
      refine r_iload_n C at_182 (pc' := 183) rfl rfl ?_
      refine r_callS (y := (⟨"com/example/hardy_producer/hardyproducer/internal/Murmur2HashPinLaw", "mix", "(I)I"⟩ : MethodName)) (as := [(.int c1)]) (st := [(.int (g1 * (1540483477 : Int32)))]) C (t14 hw) (t15 hw) (t4 hw) (t16 hw) (by decide) pd2 rfl rfl at_183 (pc' := 186) rfl rfl (W := 1) (Nat.le_of_eq rfl) (rmM l Z a0 hw c1 h13 n0) (by decide) (by decide) (by decide) (by decide) ?_
      rintro _ _ ⟨rfl, rfl⟩
      show Run _ _ _ _ _ _ _ _ _ _ _ _ _ _ _ h13 1 12 186 #[.val (.int a), .val (.int b), .val (.int c1), .val (.int se), .val (.int nn), .val (.ref ar), .val (.int (own_res a b c1 nn k)), .val (.int (1540483477 : Int32)), .val (.int bb), .val (.int tt), .val (.int g1), .unset, .unset] [(.int (own_mix c1)), (.int (g1 * (1540483477 : Int32)))]
      refine r_ixor C at_186 (pc' := 187) rfl (z := ((g1 * (1540483477 : Int32)) ^^^ (own_mix c1))) rfl ?_
      refine r_istore C at_187 (pc' := 189) rfl (ls' := #[.val (.int a), .val (.int b), .val (.int c1), .val (.int se), .val (.int nn), .val (.ref ar), .val (.int (own_res a b c1 nn k)), .val (.int (1540483477 : Int32)), .val (.int bb), .val (.int tt), .val (.int ((g1 * (1540483477 : Int32)) ^^^ (own_mix c1))), .unset, .unset]) rfl ?_
      exact J189 _ (by rw [e1, hq]; rfl)
  intro g2 hq
  show Run _ _ _ _ _ _ _ _ _ _ _ _ _ _ _ h13 1 12 189 #[.val (.int a), .val (.int b), .val (.int c1), .val (.int se), .val (.int nn), .val (.ref ar), .val (.int (own_res a b c1 nn k)), .val (.int (1540483477 : Int32)), .val (.int bb), .val (.int tt), .val (.int g2), .unset, .unset] []
  have e3 : min (k / 4) 3 = k / 4 := by omega
  rw [e3] at hq
  refine join (α := Int32) (fun jq => jq = own_W a b c1 (k / 4)) (fun jq => h13) 1 12 209 (fun jq => #[.val (.int a), .val (.int b), .val (.int c1), .val (.int se), .val (.int nn), .val (.ref ar), .val (.int (own_res a b c1 nn k)), .val (.int (1540483477 : Int32)), .val (.int bb), .val (.int tt), .val (.int g2), .unset, .unset]) (fun jq => [(.int jq)]) ?_ ?_
  rotate_left
  · intro J209
    refine r_iload C at_189 (pc' := 191) rfl rfl ?_
    refine r_ifne C at_191 (pcT := 198) (pcF := 194) (by decide) rfl ?_ ?_
    rotate_left
    · intro c191
      have e0 : k / 4 = 0 := by rw [c191] at hbb; change (0 : Int) = _ at hbb; omega
      refine r_iload_n C at_194 (pc' := 195) rfl rfl ?_
      refine r_goto C at_195 (pc' := 209) (by decide) ?_
      exact J209 _ (by rw [e0]; rfl)
    · intro c191
      have e0 : k / 4 ≠ 0 := fun q => by rw [q] at hbb; exact c191 (own_ofInt hbb)
      refine r_iload C at_198 (pc' := 200) rfl rfl ?_
      refine r_iconst C at_200 (pc' := 201) rfl (z := (1 : Int32)) rfl ?_
      refine r_icmpne C at_201 (pcT := 208) (pcF := 204) (by decide) rfl ?_ ?_
      rotate_left
      · intro c201
        have e1 : k / 4 = 1 := by rw [c201] at hbb; change (1 : Int) = _ at hbb; omega
        refine r_iload_n C at_204 (pc' := 205) rfl rfl ?_
        refine r_goto C at_205 (pc' := 209) (by decide) ?_
        exact J209 _ (by rw [e1]; rfl)
      · intro c201
        have e1 : k / 4 ≠ 1 := fun q => by rw [q] at hbb; exact c201 (own_ofInt hbb)
        refine r_iload_n C at_208 (pc' := 209) rfl rfl ?_
        exact J209 _ (by unfold own_W; rw [if_neg e0, if_neg e1])
  intro tw htw
  show Run _ _ _ _ _ _ _ _ _ _ _ _ _ _ _ h13 1 12 209 #[.val (.int a), .val (.int b), .val (.int c1), .val (.int se), .val (.int nn), .val (.ref ar), .val (.int (own_res a b c1 nn k)), .val (.int (1540483477 : Int32)), .val (.int bb), .val (.int tt), .val (.int g2), .unset, .unset] [(.int tw)]
  refine r_istore C at_209 (pc' := 211) rfl (ls' := #[.val (.int a), .val (.int b), .val (.int c1), .val (.int se), .val (.int nn), .val (.ref ar), .val (.int (own_res a b c1 nn k)), .val (.int (1540483477 : Int32)), .val (.int bb), .val (.int tt), .val (.int g2), .val (.int tw), .unset]) rfl ?_
  refine join (α := Int32 × Slot) (fun jq => jq.1 = own_tail g2 tw (k % 4)) (fun jq => h13) 1 12 240 (fun jq => #[.val (.int a), .val (.int b), .val (.int c1), .val (.int se), .val (.int nn), .val (.ref ar), .val (.int (own_res a b c1 nn k)), .val (.int (1540483477 : Int32)), .val (.int bb), .val (.int tt), .val (.int jq.1), .val (.int tw), jq.2]) (fun jq => []) ?_ ?_
  rotate_left
  · intro J240
    refine r_iload C at_211 (pc' := 213) rfl rfl ?_
    refine r_ifle C at_213 (pcT := 240) (pcF := 216) (by decide) rfl ?_ ?_
    · intro c213
      replace c213 : tt.toInt ≤ 0 := c213
      have e0 : k % 4 = 0 := by omega
      exact J240 (_, _) (by dsimp only; rw [e0]; rfl)
    · intro c213
      replace c213 : 0 < tt.toInt := c213
      have e0 : k % 4 ≠ 0 := by omega
      have hm := own_mk htt (by omega) (by omega)
      refine r_iconst C at_216 (pc' := 217) rfl (z := (1 : Int32)) rfl ?_
      refine r_bipush C at_217 (pc' := 219) rfl (z := (8 : Int32)) rfl ?_
      refine r_iload C at_219 (pc' := 221) rfl rfl ?_
      refine r_imul C at_221 (pc' := 222) rfl (z := ((8 : Int32) * tt)) rfl ?_
      refine r_ishl C at_222 (pc' := 223) rfl (z := ((1 : Int32) <<< (((8 : Int32) * tt) &&& 31))) rfl ?_
      refine r_iconst C at_223 (pc' := 224) rfl (z := (1 : Int32)) rfl ?_
      refine r_isub C at_224 (pc' := 225) rfl (z := (own_mask (k % 4))) hm ?_
      refine r_istore C at_225 (pc' := 227) rfl (ls' := #[.val (.int a), .val (.int b), .val (.int c1), .val (.int se), .val (.int nn), .val (.ref ar), .val (.int (own_res a b c1 nn k)), .val (.int (1540483477 : Int32)), .val (.int bb), .val (.int tt), .val (.int g2), .val (.int tw), .val (.int (own_mask (k % 4)))]) rfl ?_
      refine r_iload C at_227 (pc' := 229) rfl rfl ?_
      refine r_iload C at_229 (pc' := 231) rfl rfl ?_
      refine r_iload C at_231 (pc' := 233) rfl rfl ?_
      refine r_iand C at_233 (pc' := 234) rfl (z := (tw &&& (own_mask (k % 4)))) rfl ?_
      refine r_ixor C at_234 (pc' := 235) rfl (z := (g2 ^^^ (tw &&& (own_mask (k % 4))))) rfl ?_
      refine r_iload C at_235 (pc' := 237) rfl rfl ?_
      refine r_imul C at_237 (pc' := 238) rfl (z := ((g2 ^^^ (tw &&& (own_mask (k % 4)))) * (1540483477 : Int32))) rfl ?_
      refine r_istore C at_238 (pc' := 240) rfl (ls' := #[.val (.int a), .val (.int b), .val (.int c1), .val (.int se), .val (.int nn), .val (.ref ar), .val (.int (own_res a b c1 nn k)), .val (.int (1540483477 : Int32)), .val (.int bb), .val (.int tt), .val (.int ((g2 ^^^ (tw &&& (own_mask (k % 4)))) * (1540483477 : Int32))), .val (.int tw), .val (.int (own_mask (k % 4)))]) rfl ?_
      exact J240 (_, _) (by dsimp only; unfold own_tail; rw [if_neg e0])
  rintro ⟨y, s12⟩ hy
  dsimp only at hy ⊢
  show Run _ _ _ _ _ _ _ _ _ _ _ _ _ _ _ h13 1 12 240 #[.val (.int a), .val (.int b), .val (.int c1), .val (.int se), .val (.int nn), .val (.ref ar), .val (.int (own_res a b c1 nn k)), .val (.int (1540483477 : Int32)), .val (.int bb), .val (.int tt), .val (.int y), .val (.int tw), s12] []
  refine r_iload C at_240 (pc' := 242) rfl rfl ?_
  refine r_iload C at_242 (pc' := 244) rfl rfl ?_
  refine r_bipush C at_244 (pc' := 246) rfl (z := (13 : Int32)) rfl ?_
  refine r_iushr C at_246 (pc' := 247) rfl (z := (XT.ushr y (13 : Int32))) rfl ?_
  refine r_ixor C at_247 (pc' := 248) rfl (z := (own_f1 y)) rfl ?_
  refine r_istore C at_248 (pc' := 250) rfl (ls' := #[.val (.int a), .val (.int b), .val (.int c1), .val (.int se), .val (.int nn), .val (.ref ar), .val (.int (own_res a b c1 nn k)), .val (.int (1540483477 : Int32)), .val (.int bb), .val (.int tt), .val (.int (own_f1 y)), .val (.int tw), s12]) rfl ?_
  refine r_iload C at_250 (pc' := 252) rfl rfl ?_
  refine r_iload C at_252 (pc' := 254) rfl rfl ?_
  refine r_imul C at_254 (pc' := 255) rfl (z := ((own_f1 y) * (1540483477 : Int32))) rfl ?_
  refine r_istore C at_255 (pc' := 257) rfl (ls' := #[.val (.int a), .val (.int b), .val (.int c1), .val (.int se), .val (.int nn), .val (.ref ar), .val (.int (own_res a b c1 nn k)), .val (.int (1540483477 : Int32)), .val (.int bb), .val (.int tt), .val (.int ((own_f1 y) * (1540483477 : Int32))), .val (.int tw), s12]) rfl ?_
  refine r_iload C at_257 (pc' := 259) rfl rfl ?_
  refine r_iload C at_259 (pc' := 261) rfl rfl ?_
  refine r_bipush C at_261 (pc' := 263) rfl (z := (15 : Int32)) rfl ?_
  refine r_iushr C at_263 (pc' := 264) rfl (z := (XT.ushr ((own_f1 y) * (1540483477 : Int32)) (15 : Int32))) rfl ?_
  refine r_ixor C at_264 (pc' := 265) rfl (z := (own_fin y)) rfl ?_
  refine r_istore C at_265 (pc' := 267) rfl (ls' := #[.val (.int a), .val (.int b), .val (.int c1), .val (.int se), .val (.int nn), .val (.ref ar), .val (.int (own_res a b c1 nn k)), .val (.int (1540483477 : Int32)), .val (.int bb), .val (.int tt), .val (.int (own_fin y)), .val (.int tw), s12]) rfl ?_
  refine r_iload C at_267 (pc' := 269) rfl rfl ?_
  refine r_iload C at_269 (pc' := 271) rfl rfl ?_
  refine r_icmpne C at_271 (pcT := 278) (pcF := 274) (by decide) rfl ?_ ?_
  · intro c271
    exact absurd (by rw [hy, hq, htw]; rfl) c271
  intro c271
  refine r_iconst C at_274 (pc' := 275) rfl (z := (1 : Int32)) rfl ?_
  refine r_goto C at_275 (pc' := 279) (by decide) ?_
  exact r_ireturnN (t := .boolean) (by simp) C at_279 rfl (by decide) (by decide)
set_option maxRecDepth 65536 in
set_option maxHeartbeats 40000000 in
theorem comes_1 {Post : Tables → Env → Array Value → State → Outcome → State → Prop} (hpost : ∀ tb e args s v u, (limb_1_1.after args s (.returned v) u = true ∧ limb_1_2.after args s (.returned v) u = true ∧ True) → FrameEnd s (.returned v) u (Jvm.fieldLocs frame_1_writes args s ++ Jvm.arrayLocs frame_1_arrays args s ++ Jvm.staticLocs frame_1_statics s) 16 128 → Post tb e args s (.returned v) u) :
    ArmFor flags0 classFile x code maxLocals ret World_1 tables_1 room_1 Calls_1 rest_1 Pre_1 Post := by
  intro l hfl _ _ p e ha hc hk s m args below hf hA hF happ hP
  obtain ⟨hcalls, hrest, hpre⟩ := hP
  obtain ⟨-, -, -, hnamed, -, -, -, hat⟩ := (Spec.applies_iff hf).mp happ
  obtain ⟨hg, hn⟩ := and_e (Cond.before_iff.mp (show (Jvm.Cond.and given_1 narrow_1).before args s = true from hpre))
  obtain ⟨g0, k0⟩ := and_e hg
  obtain ⟨w0, w1, w2, w3, rfl⟩ : ∃ w0 w1 w2 w3 : Value, args = #[w0, w1, w2, w3] := by
    have hs : args.size = 4 := by simpa [Cond.value, given_1] using g0
    obtain ⟨L⟩ := args
    match L, hs with
    | [w0, w1, w2, w3], _ => exact ⟨w0, w1, w2, w3, rfl⟩
  have hw := fun d (hd : d ∈ tables_1) => atoms_spec (ws := Jvm.Cond.code x code maxLocals ret :: tables_1) hat d (List.mem_cons_of_mem _ hd)
  obtain ⟨j0, k1⟩ := and_e k0
  obtain ⟨i0, e0⟩ := is_v j0
  obtain rfl : w0 = (.int i0) := Option.some.inj e0
  obtain ⟨j1, k2⟩ := and_e k1
  obtain ⟨i1, e1⟩ := is_v j1
  obtain rfl : w1 = (.int i1) := Option.some.inj e1
  obtain ⟨j2, k3⟩ := and_e k2
  obtain ⟨i2, e2⟩ := is_v j2
  obtain rfl : w2 = (.int i2) := Option.some.inj e2
  have j3 := k3
  obtain ⟨i3, e3⟩ := is_v j3
  obtain rfl : w3 = (.int i3) := Option.some.inj e3
  obtain ⟨n, o, h1, h2, h3, _, L, rfl, ⟨rfl, N⟩, hq⟩ := rm0 l s _ hw i0 i1 i2 i3 s.heap s.heap.size (Nat.le_refl _) tables_1 p e ha hc hk s m _ below hf ((Spec.applies_iff_loose hf).mp happ).1 ⟨rfl, State.Warmed39.refl s, rfl⟩ trivial
  refine ⟨n, _, h1, h2, h3, hpost _ _ _ _ _ _ ⟨Cond.after_iff.mpr rfl, Cond.after_iff.mpr (eq_i res_at (Term.int_eval (1)) rfl), trivial⟩ ⟨hq.1, hq.2.1, (hq.2.2.sift fun y hy => Or.inr (N y hy)).mono (by decide) (by decide)⟩⟩
theorem main_1_1 : Claimed_1_1 := comes_1 fun _ _ _ _ _ _ h hF => ⟨h.1, hF⟩
theorem main_1_2 : Claimed_1_2 := comes_1 fun _ _ _ _ _ _ h hF => ⟨h.2.1, hF⟩
end Jvm.Pilot.@@N@@
namespace Jvm.Pilot.@@N@@
open Jvm Jvm.ClassFile Sem Op Lib Jvm.Free Jvm.Stand Jvm.Pilot.@@N@@.Jvm.D
/-! MADE BY PROGRAM (witnessworld.py) out of the Statement's table words and the real class files: 9 classes; the members and pool entries that the words name. The judged class is class 1, her method 3. -/
namespace start1
open Jvm.ClassFile
def u (s : String) : CpInfo := .utf8 (stringToUtf16 s)
/-- a pool by its gaps: so many unusable entries, then the entry; so many at the end -/
def gap : Nat → List CpInfo → List CpInfo
  | 0, r => r
  | n + 1, r => .unusable :: gap n r
def poolList (es : List (Nat × CpInfo)) (last : Nat) : List CpInfo := es.foldr (fun e r => gap e.1 (e.2 :: r)) (gap last [])
def pool (es : List (Nat × CpInfo)) (last : Nat) : Array CpInfo := ⟨poolList es last⟩
def fileOf (pool : Array CpInfo) (this : Nat) (attrs : Array Attribute := #[]) (ms : Array MethodInfo := #[]) (fl : Nat := 33) (sup : Nat := 0) (ifs : Array Nat := #[]) (fds : Array FieldInfo := #[]) : ClassFile where
  minorVersion := 0
  majorVersion := 65
  constantPool := pool
  accessFlags := fl
  thisClass := this
  superClass := sup
  interfaces := ifs
  fields := fds
  methods := ms
  attributes := attrs
def plain (name : String) (sup : Option ClassId) : Class where
  name := name
  kind := .ordinary
  loader := none
  accessFlags := 33
  super := sup
  interfaces := #[]
  cf := none
  fields := #[]
  methods := #[]
  instanceTypes := #[]
  staticTypes := #[]
  resolved := #[]
  callSites := []
  init := .initialized
  statics := none
  mirror := none

def pool0 : Array CpInfo := pool [(5, u "<init>"), (0, u "()V"), (1, .class_ 10), (1, u "java/lang/Object")] 113

def k0m0 : Method := { name := "<init>", desc := "()V", sig := { parameters := [], returnType := none }, accessFlags := 1, code := none }
/-- java/lang/Object -/
def k0 : Class := { plain "java/lang/Object" none with
  accessFlags := 33
  interfaces := #[]
  cf := some (fileOf pool0 8 #[] #[{ accessFlags := 1, nameIndex := 5, descriptorIndex := 6, attributes := #[] }] 33 0 #[] #[])
  fields := #[]
  methods := #[k0m0]
  instanceTypes := #[]
  staticTypes := #[]
  resolved := Array.replicate 124 none
  statics := none }

def pool1 : Array CpInfo := pool [(2, .class_ 4), (1, u "java/lang/Object"), (0, u "<init>"), (0, u "()V"), (0, .integer 1540483477), (0, .integer 2147483647), (0, .methodref 10 11), (0, .class_ 12), (0, .nameAndType 13 14), (0, u "com/example/hardy_producer/hardyproducer/internal/Murmur2HashPinLaw"), (0, u "put"), (0, u "([BII)V"), (0, .methodref 16 17), (0, .class_ 18), (0, .nameAndType 19 20), (0, u "com/example/hardy_producer/hardyproducer/internal/Murmur2"), (0, u "hash"), (0, u "([B)I"), (0, .integer 2538058380), (0, .methodref 10 23), (0, .nameAndType 24 25), (0, u "mix"), (0, u "(I)I"), (3, u "law"), (0, u "(IIII)Z")] 4

def k1m0 : Method := { name := "<init>", desc := "()V", sig := { parameters := [], returnType := none }, accessFlags := 2, code := none }
def k1c1 : Code := { maxStack := 6, maxLocals := 3, code := method_2_code, exceptionTable := #[], attributes := #[] }
def k1m1 : Method := { name := "put", desc := "([BII)V", sig := { parameters := [(.array .byte), .int, .int], returnType := none }, accessFlags := 10, code := some k1c1 }
def k1c2 : Code := { maxStack := 3, maxLocals := 3, code := method_3_code, exceptionTable := #[], attributes := #[] }
def k1m2 : Method := { name := "mix", desc := "(I)I", sig := { parameters := [.int], returnType := some .int }, accessFlags := 10, code := some k1c2 }
def k1c3 : Code := { maxStack := 3, maxLocals := 13, code := code, exceptionTable := #[], attributes := #[] }
def k1m3 : Method := { name := "law", desc := "(IIII)Z", sig := { parameters := [.int, .int, .int, .int], returnType := some .boolean }, accessFlags := 9, code := some k1c3 }
/-- com/example/hardy_producer/hardyproducer/internal/Murmur2HashPinLaw -/
def k1 : Class := { plain "com/example/hardy_producer/hardyproducer/internal/Murmur2HashPinLaw" (some 0) with
  accessFlags := 49
  interfaces := #[]
  cf := some (fileOf pool1 10 #[] #[{ accessFlags := 2, nameIndex := 5, descriptorIndex := 6, attributes := #[] }, { accessFlags := 10, nameIndex := 13, descriptorIndex := 14, attributes := #[] }, { accessFlags := 10, nameIndex := 24, descriptorIndex := 25, attributes := #[] }, { accessFlags := 9, nameIndex := 29, descriptorIndex := 30, attributes := #[] }] 49 2 #[] #[])
  fields := #[]
  methods := #[k1m0, k1m1, k1m2, k1m3]
  instanceTypes := #[]
  staticTypes := #[]
  resolved := Array.replicate 35 none
  statics := none }

def pool2 : Array CpInfo := pool [(2, .class_ 4), (1, u "java/lang/Object"), (0, u "<init>"), (0, u "()V"), (0, .class_ 8), (0, u "com/example/hardy_producer/hardyproducer/internal/Murmur2"), (0, .integer 2538058380), (0, .integer 1540483477), (19, u "hash"), (0, u "([B)I"), (1, u "SEED"), (0, u "I"), (1, u "M"), (0, u "R")] 25

def k2m0 : Method := { name := "<init>", desc := "()V", sig := { parameters := [], returnType := none }, accessFlags := 2, code := none }
def k2c1 : Code := { maxStack := 4, maxLocals := 6, code := prog_21_method_2_code, exceptionTable := #[], attributes := #[] }
def k2m1 : Method := { name := "hash", desc := "([B)I", sig := { parameters := [(.array .byte)], returnType := some .int }, accessFlags := 9, code := some k2c1 }
/-- com/example/hardy_producer/hardyproducer/internal/Murmur2 -/
def k2 : Class := { plain "com/example/hardy_producer/hardyproducer/internal/Murmur2" (some 0) with
  accessFlags := 33
  interfaces := #[]
  cf := some (fileOf pool2 7 #[] #[{ accessFlags := 2, nameIndex := 5, descriptorIndex := 6, attributes := #[] }, { accessFlags := 9, nameIndex := 30, descriptorIndex := 31, attributes := #[] }] 33 2 #[] #[{ accessFlags := 26, nameIndex := 33, descriptorIndex := 34, attributes := #[] }, { accessFlags := 26, nameIndex := 36, descriptorIndex := 34, attributes := #[] }, { accessFlags := 26, nameIndex := 37, descriptorIndex := 34, attributes := #[] }])
  fields := #[{ name := "SEED", type := .int, accessFlags := 26, slot := 0, constantValue := 0 }, { name := "M", type := .int, accessFlags := 26, slot := 1, constantValue := 0 }, { name := "R", type := .int, accessFlags := 26, slot := 2, constantValue := 0 }]
  methods := #[k2m0, k2m1]
  instanceTypes := #[]
  staticTypes := #[.int, .int, .int]
  resolved := Array.replicate 63 none
  statics := none }

def pool3 : Array CpInfo := pool [(1, u "java/lang/Cloneable"), (0, .class_ 1), (0, u "java/lang/Object"), (0, .class_ 3)] 3

/-- java/lang/Cloneable -/
def k3 : Class := { plain "java/lang/Cloneable" (some 0) with
  accessFlags := 1537
  interfaces := #[]
  cf := some (fileOf pool3 2 #[] #[] 1537 4 #[] #[])
  fields := #[]
  methods := #[]
  instanceTypes := #[]
  staticTypes := #[]
  resolved := Array.replicate 8 none
  statics := none }

def pool4 : Array CpInfo := pool [(1, u "java/io/Serializable"), (0, .class_ 1), (0, u "java/lang/Object"), (0, .class_ 3)] 3

/-- java/io/Serializable -/
def k4 : Class := { plain "java/io/Serializable" (some 0) with
  accessFlags := 1537
  interfaces := #[]
  cf := some (fileOf pool4 2 #[] #[] 1537 4 #[] #[])
  fields := #[]
  methods := #[]
  instanceTypes := #[]
  staticTypes := #[]
  resolved := Array.replicate 8 none
  statics := none }

/-- the primitive byte -/
def k5 : Class := { plain "byte" none with kind := .primitive 'B', accessFlags := 0x411 }
/-- [B -/
def k6 : Class := { plain "[B" (some 0) with kind := .array 5 .byte, interfaces := #[3, 4], accessFlags := 1041 }

/-- the primitive int -/
def k7 : Class := { plain "int" none with kind := .primitive 'I', accessFlags := 0x411 }
/-- [I -/
def k8 : Class := { plain "[I" (some 0) with kind := .array 7 .int, interfaces := #[3, 4], accessFlags := 1041 }

def heap : Heap := #[]
def classes : Array Class := #[k0, k1, k2, k3, k4, k5, k6, k7, k8]
def interned : List (Array UInt16 × Addr) := []
def slotsUsed : Nat := 0
def theMethod : MethodId := ⟨1, 3⟩
def args0 : Array Value := #[.int 5, .int 5, .int 5, .int 5]
def aboutOver (below : List Frame) : State where
  vm := { classes := classes, interned := interned.toArray }
  heap := heap
  slotsUsed := slotsUsed
  threads := #[{ frames := .invoking theMethod args0 :: below }]
def below0 : List Frame := [.native { method := ⟨0, 0⟩, args := #[] }]
def about1 : State := aboutOver below0
def p0 : Program := .bare "" "" ""
def e0 : Env := launch0.env 0 0 0
theorem w_frames : about1.frames = Frame.invoking theMethod args0 :: below0 := rfl
set_option maxRecDepth 65536 in
theorem w_args : argsFit about1.vm theMethod args0 = true := by decide +kernel
set_option maxRecDepth 65536 in
theorem w_heap : heapFits about1 = true := by decide +kernel
set_option maxRecDepth 65536 in
theorem w_runnable : about1.curStatus? = some .runnable := by decide +kernel
set_option maxRecDepth 65536 in
theorem w_alone : about1.alone = true := by decide +kernel
set_option maxRecDepth 65536 in
theorem w_named : about1.methodNamed? x = some theMethod := by decide +kernel
set_option maxRecDepth 65536 in
theorem w_hears : about1.hears theMethod below0 = true := by decide +kernel
set_option maxRecDepth 65536 in
theorem w_ripe : about1.ripe theMethod args0 below0 = true := by decide +kernel
theorem w_running : about1.status = .running := rfl
set_option maxRecDepth 65536 in
theorem w_room : about1.hasRoom e0.platform room_1 = true :=
  launch0.hasRoom_least _ room_1 (by decide +kernel) (by decide +kernel) (by decide +kernel) (by decide +kernel) (by decide +kernel) (by decide +kernel)
theorem allAtoms_all (ts : List Jvm.Cond) (a : Array Jvm.Value) (st : Jvm.State) : (allAtoms ts).before a st = ts.all (fun c => c.before a st) := by
  induction ts with
  | nil => rfl
  | cons c t ih =>
    show (Jvm.Cond.and c (allAtoms t)).before a st = _
    rw [Jvm.Cond.before_and, ih, List.all_cons]
def words1 : List Jvm.Cond := Jvm.Cond.code x code maxLocals ret :: tables_1
/-- a 'code' word, met by the world's own term for the bytes: nothing is compared byte by byte -/
theorem code_word {y : MethodName} {bytes : ByteArray} {mx : Nat} {rt : Option FieldType} {a : Array Value} {s : State} {m : MethodId} {meth : Method} {c : Code} (h1 : s.methodNamed? y = some m) (h2 : s.vm.method? m = some meth) (h3 : meth.code = some c) (h4 : c.code = bytes)
    (h5 : (c.maxLocals == mx && c.exceptionTable.isEmpty && decide (c.maxStack ≤ mostOperands) && decide (meth.sig.returnType = rt) && !meth.locks && decide (parseMethodDescriptor y.desc = some meth.sig)) = true) : (Jvm.Cond.code y bytes mx rt).before a s = true := by
  simp only [Bool.and_eq_true, beq_iff_eq, Bool.not_eq_true', decide_eq_true_eq] at h5
  obtain ⟨⟨⟨⟨⟨g1, g2⟩, g3⟩, g4⟩, g5⟩, g6⟩ := h5
  simp [Cond.before, Cond.holds, Cond.value, h1, h2, h3, h4, g1, g2, g3, g4, g5, g6]
def isCode : Jvm.Cond → Bool
  | .code _ _ _ _ => true
  | _ => false
theorem all_split {L : List Jvm.Cond} {P : Jvm.Cond → Bool} (h1 : L.all (fun c => isCode c || P c) = true) (h2 : ∀ c ∈ L.filter isCode, P c = true) : L.all P = true := by
  refine List.all_eq_true.mpr fun c hc => ?_
  have h := List.all_eq_true.mp h1 c hc
  rcases Bool.eq_false_or_eq_true (isCode c) with hi | hi
  · exact h2 c (List.mem_filter.mpr ⟨hc, hi⟩)
  · simpa [hi] using h
set_option maxRecDepth 65536 in
theorem w_c0 : (Jvm.Cond.code x code maxLocals ret).before args0 about1 = true := code_word (m := ⟨1, 3⟩) (meth := k1m3) (c := k1c3) (by decide +kernel) rfl rfl rfl (by decide +kernel)
set_option maxRecDepth 65536 in
theorem w_c1 : (Jvm.Cond.code ({ cls := "com/example/hardy_producer/hardyproducer/internal/Murmur2HashPinLaw", name := "put", desc := "([BII)V" } : Jvm.MethodName) method_2_code (3 : Nat) (Option.none : Option Jvm.ClassFile.FieldType)).before args0 about1 = true := code_word (m := ⟨1, 1⟩) (meth := k1m1) (c := k1c1) (by decide +kernel) rfl rfl rfl (by decide +kernel)
set_option maxRecDepth 65536 in
theorem w_c2 : (Jvm.Cond.code ({ cls := "com/example/hardy_producer/hardyproducer/internal/Murmur2", name := "hash", desc := "([B)I" } : Jvm.MethodName) prog_21_method_2_code (6 : Nat) (Option.some Jvm.ClassFile.FieldType.int)).before args0 about1 = true := code_word (m := ⟨2, 1⟩) (meth := k2m1) (c := k2c1) (by decide +kernel) rfl rfl rfl (by decide +kernel)
set_option maxRecDepth 65536 in
theorem w_c3 : (Jvm.Cond.code ({ cls := "com/example/hardy_producer/hardyproducer/internal/Murmur2HashPinLaw", name := "mix", desc := "(I)I" } : Jvm.MethodName) method_3_code (3 : Nat) (Option.some Jvm.ClassFile.FieldType.int)).before args0 about1 = true := code_word (m := ⟨1, 2⟩) (meth := k1m2) (c := k1c2) (by decide +kernel) rfl rfl rfl (by decide +kernel)
def codes1 : List Jvm.Cond := [Jvm.Cond.code x code maxLocals ret, Jvm.Cond.code ({ cls := "com/example/hardy_producer/hardyproducer/internal/Murmur2HashPinLaw", name := "put", desc := "([BII)V" } : Jvm.MethodName) method_2_code (3 : Nat) (Option.none : Option Jvm.ClassFile.FieldType), Jvm.Cond.code ({ cls := "com/example/hardy_producer/hardyproducer/internal/Murmur2", name := "hash", desc := "([B)I" } : Jvm.MethodName) prog_21_method_2_code (6 : Nat) (Option.some Jvm.ClassFile.FieldType.int), Jvm.Cond.code ({ cls := "com/example/hardy_producer/hardyproducer/internal/Murmur2HashPinLaw", name := "mix", desc := "(I)I" } : Jvm.MethodName) method_3_code (3 : Nat) (Option.some Jvm.ClassFile.FieldType.int)]
set_option maxRecDepth 65536 in
theorem codes_eq : words1.filter isCode = codes1 := rfl
theorem w_codes : ∀ c ∈ words1.filter isCode, c.before args0 about1 = true := by
  rw [codes_eq]
  intro c hc
  simp only [codes1, List.mem_cons, List.not_mem_nil, or_false] at hc
  rcases hc with rfl | rfl | rfl | rfl
  · exact w_c0
  · exact w_c1
  · exact w_c2
  · exact w_c3
set_option maxRecDepth 65536 in
theorem w_t1 : words1.all (fun c => isCode c || c.before args0 about1) = true := by decide +kernel
theorem w_tables : (allAtoms (Jvm.Cond.code x code maxLocals ret :: tables_1)).before args0 about1 = true := by
  rw [allAtoms_all]
  show words1.all (fun c => c.before args0 about1) = true
  refine all_split ?_ w_codes
  rw [w_t1]
set_option maxRecDepth 65536 in
theorem w_case : (Jvm.Cond.and given_1 narrow_1).before args0 about1 = true := by decide +kernel
theorem w_applies : (headSpec (Jvm.Cond.code x code maxLocals ret :: tables_1) room_1).applies x e0.platform about1 = true :=
  (Spec.applies_iff w_frames).mpr ⟨w_running, w_runnable, w_alone, w_named, w_hears, w_ripe, w_room, w_tables⟩
theorem atStart : AtStart classFile x code maxLocals ret World_1 tables_1 room_1 Calls_1 rest_1 Pre_1 launch0 p0 e0 about1 theMethod args0 below0 :=
  ⟨lists_1, trivial, launch0.admits_env _ _ _, launch0.least_env, fairChoices_fair.cas, fairChoices_fair.clock, w_frames, w_args, w_heap, w_applies, trivial, trivial, w_case⟩
end start1
theorem witness_1 : WitnessClaimed_1 := ⟨start1.p0, start1.e0, start1.about1, start1.theMethod, start1.args0, start1.below0, start1.atStart⟩
end Jvm.Pilot.@@N@@
