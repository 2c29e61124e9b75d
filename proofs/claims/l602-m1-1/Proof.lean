import JvmDerived
import JvmDerived.Pilot.@@N@@Statement
import JvmDerived.Pilot.@@N@@Code
set_option linter.unusedVariables false
set_option linter.unusedSimpArgs false
@@BLOCK:NumsL.lean.txt@@
namespace Jvm.OwnWP
open Sem ClassFile Op Lib Jvm.Free Jvm.Stand Jvm.LawKit Jvm.RoadKit
/-! ## the ghost heap: what the law has made so far, cell by cell -/
/-- a field: the class that declares it, its name, its descriptor, its type -/
abbrev Fd := String × String × String × FieldType
/-- a class: its name, its number of slots, its fields -/
abbrev Sig := List (String × Nat × List Fd)
/-- an object: the number of its class, or an array's element type; the fields' values in the class's order, or the components -/
abbrev Obj := (Nat ⊕ FieldType) × List Value
abbrev Ghost := List Obj
def ObjAt (sig : Sig) (Z : State) (h : Heap) (a : Addr) : Obj → Prop
  | (.inl ci, vs) => ∃ (C : String) (n : Nat) (fs : List Fd), sig[ci]? = some (C, n, fs) ∧ Exa Z h a C ∧ vs.length = fs.length ∧ ∀ (i : Nat) (O nm d : String) (ty : FieldType) (v : Value), fs[i]? = some (O, nm, d, ty) → vs[i]? = some v → Fld Z h a O nm d v
  | (.inr ty, vs) => ∃ c : Cell, Arr Z h a c ty ∧ c.slots.toList = vs ∧ vs.length < 2 ^ 31 ∧ (∀ v ∈ vs, fits ty v = true) ∧ Z.vm.findClass ("[" ++ ty.toString) = some c.cls
def Rep (sig : Sig) (Z : State) (n0 : Nat) (h : Heap) (G : Ghost) : Prop :=
  n0 = Z.heap.size ∧ Ext Z.heap h ∧ h.size = n0 + G.length ∧ ∀ (k : Nat) (o : Obj), G[k]? = some o → ObjAt sig Z h (n0 + k) o
/-- the sheet's words for the classes of `sig` -/
def SigOk (tab : List Jvm.Cond) (sig : Sig) : Prop :=
  ∀ (ci : Nat) (C : String) (n : Nat) (fs : List Fd), sig[ci]? = some (C, n, fs) → Jvm.Cond.instantiable C n ∈ tab ∧ (∀ f ∈ fs, (Jvm.Cond.lays C f.1 f.2.1 f.2.2.1 ∈ tab ∨ Jvm.Cond.laysFinal C f.1 f.2.1 f.2.2.1 ∈ tab) ∧ parseFieldDescriptor f.2.2.1 = some f.2.2.2) ∧ (fs.map (·.2.1)).Nodup
theorem tw {α : Type} {l : List α} (i : Nat) {x : α} (h : l[i]? = some x) : x ∈ l := List.mem_of_getElem? h
abbrev JT := Nat → List Slot → List Value → Ghost → Nat → Nat → Prop
abbrev Post := Option Value → Ghost → Prop
def Fin1 (sig : Sig) (Z : State) (n0 : Nat) (Q : Post) (KC KS : Nat) (p : Program) (e : Env) (below : List Frame) (s : State) (U : State) : Prop :=
  ∃ t o, Steps p.tables e below U t ∧ t.status = .running ∧ Ended t below o ∧ ∃ v L, o = .returned v ∧ (∃ G', Rep sig Z n0 t.heap G' ∧ Q v G' ∧ Fr n0 L) ∧ FrameEnd s o t L KC KS
def Wp (sig : Sig) (Z : State) (n0 : Nat) (Q : Post) (p : Program) (l : Launch) (e : Env) (R : Room) (s : State) (m : MethodId) (args : Array Value) (below : List Frame) (meth : Method) (c : Code) : JT :=
  fun pc Ls S G k sl => ∀ T locs, Stand p l e R s m args below meth c T locs k sl → Rep sig Z n0 T.heap G → Fr n0 locs → Fin1 sig Z n0 Q R.cells R.slots p e below s (T.setTop (mkF m pc Ls.toArray S))
/-- J is the weakest precondition of one body's walk -/
def Walk (tab : List Jvm.Cond) (sig : Sig) (l : Launch) (Z : State) (a0 : Array Value) (n0 : Nat) (own nm : String) (bytes : ByteArray) (maxL : Nat) (ret : Option FieldType) (R : Room) (Q : Post) (J : JT) : Prop :=
  ∃ p e s m args below meth c, J = Wp sig Z n0 Q p l e R s m args below meth c ∧ p.tables.exec = Jvm.exec ∧ c.code = bytes ∧ c.maxLocals = maxL ∧ meth.sig.returnType = ret ∧ meth.locks = false ∧ meth.name = nm ∧ Z.Warmed39 s.vm ∧ s.vm.findClass own = some m.cls ∧ (∀ d ∈ tab, d.before a0 Z = true) ∧ SigOk tab sig
/-- the contract of a method: at the arguments `as` and the ghost heap G it returns, and Q holds of what it returns and of the ghost heap it leaves -/
def Meth (sig : Sig) (l : Launch) (Z : State) (n0 : Nat) (y : MethodName) (bytes : ByteArray) (maxL : Nat) (ret : Option FieldType) (R : Room) (as : List Value) (G : Ghost) (Q : Post) : Prop :=
  ∀ (ws : List Jvm.Cond) (h0 : Heap), Rep sig Z n0 h0 G → MetFree l y (head1 (Jvm.Cond.code y bytes maxL ret :: ws) R) (fun a U => a = as.toArray ∧ Z.Warmed39 U.vm ∧ U.heap = h0) (fun _ _ _ _ _ => True)
    (fun _ U o U' => ∃ v L, o = .returned v ∧ (∃ G', Rep sig Z n0 U'.heap G' ∧ Q v G' ∧ Fr n0 L) ∧ FrameEnd U o U' L R.cells R.slots)
section Body
variable {tab : List Jvm.Cond} {sig : Sig} {l : Launch} {Z : State} {a0 : Array Value} {n0 : Nat} {bytes : ByteArray} {maxL : Nat} {ret : Option FieldType} {R : Room} {Q : Post}
theorem Meth.of {y : MethodName} {as : List Value} {G : Ghost} {Ls : List Slot} (hpl : plainFor y = true) (hw : ∀ d ∈ tab, d.before a0 Z = true) (hS : SigOk tab sig)
    (hent : ∀ m, entryFrame m as.toArray maxL = mkF m 0 Ls.toArray [])
    (body : ∀ J, Walk tab sig l Z a0 n0 y.cls y.name bytes maxL ret R Q J → J 0 Ls [] G 0 0) : Meth sig l Z n0 y bytes maxL ret R as G Q := by
  intro ws h0 hrep
  refine MetFree.of_bodySF hpl hisR ?_
  intro p e s m args below meth c s₁ Bd hml0 hP hK
  obtain ⟨rfl, hZ, hh⟩ := hP
  have hown : s.vm.findClass y.cls = some m.cls := findClass_of_methodNamed Bd.named
  have hnm := (name_of_methodNamed Bd.named Bd.method).1
  have X0 : Stand p l e R s m as.toArray below meth c s₁ [] 0 0 := Stand.of_body Bd
  have e0 : s₁.heap = h0 := by rw [← hh, Bd.state]; rfl
  have J := body _ ⟨p, e, s, m, as.toArray, below, meth, c, rfl, Bd.exec, Bd.bytes, hml0, Bd.returns, Bd.notSynchronized, hnm, hZ, hown, hw, hS⟩ s₁ [] X0 (by rw [e0]; exact hrep) (Fr.nil n0)
  obtain ⟨t, o, st, r1, r2, v, L, r3, r4, r5⟩ := J
  exact ⟨t, o, castTop (hent m) st, r1, r2, v, L, r3, r4, r5⟩
end Body
/-! ## the local variables as a list -/
def ok1 : Option Slot → Bool
  | some .unset => true
  | some (.val (.long _)) => false
  | some (.val (.double _)) => false
  | some (.val _) => true
  | _ => false
def ok2 : Option Slot → Option Slot → Bool
  | some .unset, some .unset => true
  | some .unset, some (.val (.int _)) => true
  | some .unset, some (.val .null) => true
  | some .unset, some (.val (.ref _)) => true
  | some (.val (.int _)), some .unset => true
  | some (.val (.int _)), some (.val (.int _)) => true
  | some (.val (.int _)), some (.val .null) => true
  | some (.val (.int _)), some (.val (.ref _)) => true
  | some (.val .null), some .unset => true
  | some (.val .null), some (.val (.int _)) => true
  | some (.val .null), some (.val .null) => true
  | some (.val .null), some (.val (.ref _)) => true
  | some (.val (.ref _)), some .unset => true
  | some (.val (.ref _)), some (.val (.int _)) => true
  | some (.val (.ref _)), some (.val .null) => true
  | some (.val (.ref _)), some (.val (.ref _)) => true
  | some (.val (.long _)), some .second => true
  | _, _ => false
theorem store_one {Ls : List Slot} {i : Nat} {v : Value} (ho : ok1 Ls[i]? = true) (hv : v.category = 1) : storeLocals Ls.toArray i v = some (Ls.set i (.val v)).toArray := by
  have hlt : i < Ls.length := by
    rcases Nat.lt_or_ge i Ls.length with h | h
    · exact h
    · rw [List.getElem?_eq_none h] at ho; cases ho
  cases hq : Ls[i]? with
  | none => rw [hq] at ho; cases ho
  | some o =>
    rw [hq] at ho
    have e := XS.store1 (l := Ls.toArray) (i := i) (v := v) (o := o) (by simpa using hq) (by
      cases o with
      | unset => exact Or.inl rfl
      | second => cases ho
      | val w => exact Or.inr ⟨w, rfl, by cases w <;> first | rfl | (cases ho)⟩) hv
    rw [e]
    simp
theorem store_two {Ls : List Slot} {i : Nat} {v : Int64} (ho : ok2 Ls[i]? Ls[i + 1]? = true) : storeLocals Ls.toArray i (.long v) = some ((Ls.set i (.val (.long v))).set (i + 1) .second).toArray := by
  have hlt : i + 1 < Ls.length := by
    rcases Nat.lt_or_ge (i + 1) Ls.length with h | h
    · exact h
    · rw [List.getElem?_eq_none h] at ho
      generalize Ls[i]? = o at ho
      cases o with
      | none => cases ho
      | some o => cases o with
        | unset => cases ho
        | second => cases ho
        | val w => cases w <;> cases ho
  have hlt0 : i < Ls.length := by omega
  rw [List.getElem?_eq_getElem hlt, List.getElem?_eq_getElem hlt0] at ho
  have g0 : Ls.toArray[i]? = some Ls[i] := by simp [hlt0]
  have g1 : Ls.toArray[i + 1]? = some Ls[i + 1] := by simp [hlt]
  generalize Ls[i] = A at ho g0
  generalize Ls[i + 1] = B at ho g1
  cases A with
  | unset => cases B with
    | unset => simp_all [storeLocals, storeSelf, setAt, Value.category]
    | second => cases ho
    | val w => cases w <;> first | (cases ho; done) | simp_all [storeLocals, storeSelf, setAt, Value.category]
  | second => cases ho
  | val u => cases B with
    | unset => cases u <;> first | (cases ho; done) | simp_all [storeLocals, storeSelf, setAt, Value.category]
    | second => cases u <;> first | (cases ho; done) | (simp_all [storeLocals, storeSelf, setAt, Value.category]; rw [List.set_comm _ _ (show i + 1 ≠ i by omega), List.set_set])
    | val w => cases u <;> first | (cases ho; done) | (cases w <;> first | (cases ho; done) | simp_all [storeLocals, storeSelf, setAt, Value.category])
theorem pop2L_step {p : Program} {l : Launch} {e : Env} {R : Room} {s : State} {m : MethodId} {args : Array Value} {below : List Frame} {meth : Method} {c : Code} {T : State} {locs : List Loc} {cells slots : Nat} {pc : Nat} {Ls : Array Slot} {x : Int64} {S : List Value} {target : State}
    (X : Stand p l e R s m args below meth c T locs cells slots) (hx : p.tables.exec = Jvm.exec) (hd : decode c.code pc = .ok (.pop2, 1)) (hr : Steps p.tables e below (T.setTop (mkF m (pc + 1) Ls S)) target) : Steps p.tables e below (T.setTop (mkF m pc Ls (.long x :: S))) target := by
  jvm_step X.here [X.here.top, hx, hd, Value.category]
  exact hr
section Steps
variable {tab : List Jvm.Cond} {sig : Sig} {l : Launch} {Z : State} {a0 : Array Value} {n0 : Nat} {own nm : String} {bytes : ByteArray} {maxL : Nat} {ret : Option FieldType} {R : Room} {Q : Post} {J : JT} {pc pc' : Nat} {Ls : List Slot} {S : List Value} {G : Ghost} {k sl : Nat}
theorem Walk.iload (W : Walk tab sig l Z a0 n0 own nm bytes maxL ret R Q J) {i : Nat} {v : Int32} (hd : decode bytes pc = .ok (.iload i, 2)) (hl : Ls[i]? = some (.val (.int v))) (hr : J pc' Ls (.int v :: S) G k sl) (hp : pc + 2 = pc' := by rfl) : J pc Ls (S) G k sl := by
  obtain ⟨p, e, s, m, args, below, meth, c, rfl, hx, hby, hml, hret, hlk, hnm, hZ, hown, hw, hS⟩ := W
  subst hp
  intro T locs X hG hF
  obtain ⟨t, o, st, h⟩ := hr T locs X hG hF
  exact ⟨t, o, XS.iload X.here hx rfl (Jvm.hb hby hd) (by simpa using hl) st, h⟩
theorem Walk.iloadN (W : Walk tab sig l Z a0 n0 own nm bytes maxL ret R Q J) {i : Fin 4} {v : Int32} (hd : decode bytes pc = .ok (.iload_n i, 1)) (hl : Ls[i.val]? = some (.val (.int v))) (hr : J pc' Ls (.int v :: S) G k sl) (hp : pc + 1 = pc' := by rfl) : J pc Ls (S) G k sl := by
  obtain ⟨p, e, s, m, args, below, meth, c, rfl, hx, hby, hml, hret, hlk, hnm, hZ, hown, hw, hS⟩ := W
  subst hp
  intro T locs X hG hF
  obtain ⟨t, o, st, h⟩ := hr T locs X hG hF
  exact ⟨t, o, XS.iloadN X.here hx rfl (Jvm.hb hby hd) (by simpa using hl) st, h⟩
theorem Walk.lload (W : Walk tab sig l Z a0 n0 own nm bytes maxL ret R Q J) {i : Nat} {v : Int64} (hd : decode bytes pc = .ok (.lload i, 2)) (hl : Ls[i]? = some (.val (.long v))) (hr : J pc' Ls (.long v :: S) G k sl) (hp : pc + 2 = pc' := by rfl) : J pc Ls (S) G k sl := by
  obtain ⟨p, e, s, m, args, below, meth, c, rfl, hx, hby, hml, hret, hlk, hnm, hZ, hown, hw, hS⟩ := W
  subst hp
  intro T locs X hG hF
  obtain ⟨t, o, st, h⟩ := hr T locs X hG hF
  exact ⟨t, o, XT.lload X.here hx rfl (Jvm.hb hby hd) (by simpa using hl) st, h⟩
theorem Walk.lloadN (W : Walk tab sig l Z a0 n0 own nm bytes maxL ret R Q J) {i : Fin 4} {v : Int64} (hd : decode bytes pc = .ok (.lload_n i, 1)) (hl : Ls[i.val]? = some (.val (.long v))) (hr : J pc' Ls (.long v :: S) G k sl) (hp : pc + 1 = pc' := by rfl) : J pc Ls (S) G k sl := by
  obtain ⟨p, e, s, m, args, below, meth, c, rfl, hx, hby, hml, hret, hlk, hnm, hZ, hown, hw, hS⟩ := W
  subst hp
  intro T locs X hG hF
  obtain ⟨t, o, st, h⟩ := hr T locs X hG hF
  exact ⟨t, o, XT.lloadN X.here hx rfl (Jvm.hb hby hd) (by simpa using hl) st, h⟩
theorem Walk.aload (W : Walk tab sig l Z a0 n0 own nm bytes maxL ret R Q J) {i : Nat} {v : Value} (hd : decode bytes pc = .ok (.aload i, 2)) (hl : Ls[i]? = some (.val v)) (hv : v.isRef = true) (hr : J pc' Ls (v :: S) G k sl) (hp : pc + 2 = pc' := by rfl) : J pc Ls (S) G k sl := by
  obtain ⟨p, e, s, m, args, below, meth, c, rfl, hx, hby, hml, hret, hlk, hnm, hZ, hown, hw, hS⟩ := W
  subst hp
  intro T locs X hG hF
  obtain ⟨t, o, st, h⟩ := hr T locs X hG hF
  exact ⟨t, o, XS.aload X.here hx rfl (Jvm.hb hby hd) (by simpa using hl) hv st, h⟩
theorem Walk.aloadN (W : Walk tab sig l Z a0 n0 own nm bytes maxL ret R Q J) {i : Fin 4} {v : Value} (hd : decode bytes pc = .ok (.aload_n i, 1)) (hl : Ls[i.val]? = some (.val v)) (hv : v.isRef = true) (hr : J pc' Ls (v :: S) G k sl) (hp : pc + 1 = pc' := by rfl) : J pc Ls (S) G k sl := by
  obtain ⟨p, e, s, m, args, below, meth, c, rfl, hx, hby, hml, hret, hlk, hnm, hZ, hown, hw, hS⟩ := W
  subst hp
  intro T locs X hG hF
  obtain ⟨t, o, st, h⟩ := hr T locs X hG hF
  exact ⟨t, o, XS.aloadN X.here hx rfl (Jvm.hb hby hd) (by simpa using hl) hv st, h⟩
theorem Walk.iconst (W : Walk tab sig l Z a0 n0 own nm bytes maxL ret R Q J) {i : Int} (v : Int32) (hd : decode bytes pc = .ok (.iconst i, 1)) (hv : Int32.ofInt i = v) (hr : J pc' Ls (.int v :: S) G k sl) (hp : pc + 1 = pc' := by rfl) : J pc Ls (S) G k sl := by
  obtain ⟨p, e, s, m, args, below, meth, c, rfl, hx, hby, hml, hret, hlk, hnm, hZ, hown, hw, hS⟩ := W
  subst hp
  intro T locs X hG hF
  obtain ⟨t, o, st, h⟩ := hr T locs X hG hF
  exact ⟨t, o, XT.iconstV X.here hx rfl v (Jvm.hb hby hd) hv st, h⟩
theorem Walk.bipush (W : Walk tab sig l Z a0 n0 own nm bytes maxL ret R Q J) {i : Int} (v : Int32) (hd : decode bytes pc = .ok (.bipush i, 2)) (hv : (Int8.ofInt i).toInt32 = v) (hr : J pc' Ls (.int v :: S) G k sl) (hp : pc + 2 = pc' := by rfl) : J pc Ls (S) G k sl := by
  obtain ⟨p, e, s, m, args, below, meth, c, rfl, hx, hby, hml, hret, hlk, hnm, hZ, hown, hw, hS⟩ := W
  subst hp
  intro T locs X hG hF
  obtain ⟨t, o, st, h⟩ := hr T locs X hG hF
  exact ⟨t, o, XT.bipushV X.here hx rfl v (Jvm.hb hby hd) hv st, h⟩
theorem Walk.sipush (W : Walk tab sig l Z a0 n0 own nm bytes maxL ret R Q J) {i : Int} (v : Int32) (hd : decode bytes pc = .ok (.sipush i, 3)) (hv : (Int16.ofInt i).toInt32 = v) (hr : J pc' Ls (.int v :: S) G k sl) (hp : pc + 3 = pc' := by rfl) : J pc Ls (S) G k sl := by
  obtain ⟨p, e, s, m, args, below, meth, c, rfl, hx, hby, hml, hret, hlk, hnm, hZ, hown, hw, hS⟩ := W
  subst hp
  intro T locs X hG hF
  obtain ⟨t, o, st, h⟩ := hr T locs X hG hF
  exact ⟨t, o, XT.sipushV X.here hx rfl v (Jvm.hb hby hd) hv st, h⟩
theorem Walk.lconst (W : Walk tab sig l Z a0 n0 own nm bytes maxL ret R Q J) {i : Fin 2} (v : Int64) (hd : decode bytes pc = .ok (.lconst i, 1)) (hv : Int64.ofNat i = v) (hr : J pc' Ls (.long v :: S) G k sl) (hp : pc + 1 = pc' := by rfl) : J pc Ls (S) G k sl := by
  obtain ⟨p, e, s, m, args, below, meth, c, rfl, hx, hby, hml, hret, hlk, hnm, hZ, hown, hw, hS⟩ := W
  subst hp
  intro T locs X hG hF
  obtain ⟨t, o, st, h⟩ := hr T locs X hG hF
  exact ⟨t, o, XT.lconstV X.here hx rfl v (Jvm.hb hby hd) hv st, h⟩
theorem Walk.aconstNull (W : Walk tab sig l Z a0 n0 own nm bytes maxL ret R Q J) (hd : decode bytes pc = .ok (.aconst_null, 1)) (hr : J pc' Ls (.null :: S) G k sl) (hp : pc + 1 = pc' := by rfl) : J pc Ls (S) G k sl := by
  obtain ⟨p, e, s, m, args, below, meth, c, rfl, hx, hby, hml, hret, hlk, hnm, hZ, hown, hw, hS⟩ := W
  subst hp
  intro T locs X hG hF
  obtain ⟨t, o, st, h⟩ := hr T locs X hG hF
  exact ⟨t, o, XS.aconstNull X.here hx rfl (Jvm.hb hby hd) st, h⟩
theorem Walk.iadd (W : Walk tab sig l Z a0 n0 own nm bytes maxL ret R Q J) {x y : Int32} (hd : decode bytes pc = .ok (.iadd, 1)) (hr : J pc' Ls (.int (x + y) :: S) G k sl) (hp : pc + 1 = pc' := by rfl) : J pc Ls (.int y :: .int x :: S) G k sl := by
  obtain ⟨p, e, s, m, args, below, meth, c, rfl, hx, hby, hml, hret, hlk, hnm, hZ, hown, hw, hS⟩ := W
  subst hp
  intro T locs X hG hF
  obtain ⟨t, o, st, h⟩ := hr T locs X hG hF
  exact ⟨t, o, XS.iadd X.here hx rfl (Jvm.hb hby hd) rfl st, h⟩
theorem Walk.isub (W : Walk tab sig l Z a0 n0 own nm bytes maxL ret R Q J) {x y : Int32} (hd : decode bytes pc = .ok (.isub, 1)) (hr : J pc' Ls (.int (x - y) :: S) G k sl) (hp : pc + 1 = pc' := by rfl) : J pc Ls (.int y :: .int x :: S) G k sl := by
  obtain ⟨p, e, s, m, args, below, meth, c, rfl, hx, hby, hml, hret, hlk, hnm, hZ, hown, hw, hS⟩ := W
  subst hp
  intro T locs X hG hF
  obtain ⟨t, o, st, h⟩ := hr T locs X hG hF
  exact ⟨t, o, XS.isub X.here hx rfl (Jvm.hb hby hd) rfl st, h⟩
theorem Walk.imul (W : Walk tab sig l Z a0 n0 own nm bytes maxL ret R Q J) {x y : Int32} (hd : decode bytes pc = .ok (.imul, 1)) (hr : J pc' Ls (.int (x * y) :: S) G k sl) (hp : pc + 1 = pc' := by rfl) : J pc Ls (.int y :: .int x :: S) G k sl := by
  obtain ⟨p, e, s, m, args, below, meth, c, rfl, hx, hby, hml, hret, hlk, hnm, hZ, hown, hw, hS⟩ := W
  subst hp
  intro T locs X hG hF
  obtain ⟨t, o, st, h⟩ := hr T locs X hG hF
  exact ⟨t, o, XS.imul X.here hx rfl (Jvm.hb hby hd) rfl st, h⟩
theorem Walk.iand (W : Walk tab sig l Z a0 n0 own nm bytes maxL ret R Q J) {x y : Int32} (hd : decode bytes pc = .ok (.iand, 1)) (hr : J pc' Ls (.int (x &&& y) :: S) G k sl) (hp : pc + 1 = pc' := by rfl) : J pc Ls (.int y :: .int x :: S) G k sl := by
  obtain ⟨p, e, s, m, args, below, meth, c, rfl, hx, hby, hml, hret, hlk, hnm, hZ, hown, hw, hS⟩ := W
  subst hp
  intro T locs X hG hF
  obtain ⟨t, o, st, h⟩ := hr T locs X hG hF
  exact ⟨t, o, XS.iand X.here hx rfl (Jvm.hb hby hd) rfl st, h⟩
theorem Walk.ior (W : Walk tab sig l Z a0 n0 own nm bytes maxL ret R Q J) {x y : Int32} (hd : decode bytes pc = .ok (.ior, 1)) (hr : J pc' Ls (.int (x ||| y) :: S) G k sl) (hp : pc + 1 = pc' := by rfl) : J pc Ls (.int y :: .int x :: S) G k sl := by
  obtain ⟨p, e, s, m, args, below, meth, c, rfl, hx, hby, hml, hret, hlk, hnm, hZ, hown, hw, hS⟩ := W
  subst hp
  intro T locs X hG hF
  obtain ⟨t, o, st, h⟩ := hr T locs X hG hF
  exact ⟨t, o, XT.ior X.here hx rfl (Jvm.hb hby hd) rfl st, h⟩
theorem Walk.ixor (W : Walk tab sig l Z a0 n0 own nm bytes maxL ret R Q J) {x y : Int32} (hd : decode bytes pc = .ok (.ixor, 1)) (hr : J pc' Ls (.int (x ^^^ y) :: S) G k sl) (hp : pc + 1 = pc' := by rfl) : J pc Ls (.int y :: .int x :: S) G k sl := by
  obtain ⟨p, e, s, m, args, below, meth, c, rfl, hx, hby, hml, hret, hlk, hnm, hZ, hown, hw, hS⟩ := W
  subst hp
  intro T locs X hG hF
  obtain ⟨t, o, st, h⟩ := hr T locs X hG hF
  exact ⟨t, o, XT.ixor X.here hx rfl (Jvm.hb hby hd) rfl st, h⟩
theorem Walk.ishl (W : Walk tab sig l Z a0 n0 own nm bytes maxL ret R Q J) {x y : Int32} (hd : decode bytes pc = .ok (.ishl, 1)) (hr : J pc' Ls (.int (x <<< (y &&& 31)) :: S) G k sl) (hp : pc + 1 = pc' := by rfl) : J pc Ls (.int y :: .int x :: S) G k sl := by
  obtain ⟨p, e, s, m, args, below, meth, c, rfl, hx, hby, hml, hret, hlk, hnm, hZ, hown, hw, hS⟩ := W
  subst hp
  intro T locs X hG hF
  obtain ⟨t, o, st, h⟩ := hr T locs X hG hF
  exact ⟨t, o, XT.ishl X.here hx rfl (Jvm.hb hby hd) rfl st, h⟩
theorem Walk.ishr (W : Walk tab sig l Z a0 n0 own nm bytes maxL ret R Q J) {x y : Int32} (hd : decode bytes pc = .ok (.ishr, 1)) (hr : J pc' Ls (.int (x >>> (y &&& 31)) :: S) G k sl) (hp : pc + 1 = pc' := by rfl) : J pc Ls (.int y :: .int x :: S) G k sl := by
  obtain ⟨p, e, s, m, args, below, meth, c, rfl, hx, hby, hml, hret, hlk, hnm, hZ, hown, hw, hS⟩ := W
  subst hp
  intro T locs X hG hF
  obtain ⟨t, o, st, h⟩ := hr T locs X hG hF
  exact ⟨t, o, XT.ishr X.here hx rfl (Jvm.hb hby hd) rfl st, h⟩
theorem Walk.iushr (W : Walk tab sig l Z a0 n0 own nm bytes maxL ret R Q J) {x y : Int32} (hd : decode bytes pc = .ok (.iushr, 1)) (hr : J pc' Ls (.int (XT.ushr x y) :: S) G k sl) (hp : pc + 1 = pc' := by rfl) : J pc Ls (.int y :: .int x :: S) G k sl := by
  obtain ⟨p, e, s, m, args, below, meth, c, rfl, hx, hby, hml, hret, hlk, hnm, hZ, hown, hw, hS⟩ := W
  subst hp
  intro T locs X hG hF
  obtain ⟨t, o, st, h⟩ := hr T locs X hG hF
  exact ⟨t, o, XT.iushr X.here hx rfl (Jvm.hb hby hd) rfl st, h⟩
theorem Walk.idiv (W : Walk tab sig l Z a0 n0 own nm bytes maxL ret R Q J) {x y : Int32} (hd : decode bytes pc = .ok (.idiv, 1)) (hy : y ≠ 0) (hr : J pc' Ls (.int (x / y) :: S) G k sl) (hp : pc + 1 = pc' := by rfl) : J pc Ls (.int y :: .int x :: S) G k sl := by
  obtain ⟨p, e, s, m, args, below, meth, c, rfl, hx, hby, hml, hret, hlk, hnm, hZ, hown, hw, hS⟩ := W
  subst hp
  intro T locs X hG hF
  obtain ⟨t, o, st, h⟩ := hr T locs X hG hF
  exact ⟨t, o, XS.idiv X.here hx rfl (Jvm.hb hby hd) rfl hy st, h⟩
theorem Walk.irem (W : Walk tab sig l Z a0 n0 own nm bytes maxL ret R Q J) {x y : Int32} (hd : decode bytes pc = .ok (.irem, 1)) (hy : y ≠ 0) (hr : J pc' Ls (.int (x % y) :: S) G k sl) (hp : pc + 1 = pc' := by rfl) : J pc Ls (.int y :: .int x :: S) G k sl := by
  obtain ⟨p, e, s, m, args, below, meth, c, rfl, hx, hby, hml, hret, hlk, hnm, hZ, hown, hw, hS⟩ := W
  subst hp
  intro T locs X hG hF
  obtain ⟨t, o, st, h⟩ := hr T locs X hG hF
  exact ⟨t, o, iremM X hx rfl (Jvm.hb hby hd) rfl hy st, h⟩
theorem Walk.ineg (W : Walk tab sig l Z a0 n0 own nm bytes maxL ret R Q J) {x : Int32} (hd : decode bytes pc = .ok (.ineg, 1)) (hr : J pc' Ls (.int (-x) :: S) G k sl) (hp : pc + 1 = pc' := by rfl) : J pc Ls (.int x :: S) G k sl := by
  obtain ⟨p, e, s, m, args, below, meth, c, rfl, hx, hby, hml, hret, hlk, hnm, hZ, hown, hw, hS⟩ := W
  subst hp
  intro T locs X hG hF
  obtain ⟨t, o, st, h⟩ := hr T locs X hG hF
  exact ⟨t, o, XS.ineg X.here hx rfl (Jvm.hb hby hd) rfl st, h⟩
theorem Walk.ladd (W : Walk tab sig l Z a0 n0 own nm bytes maxL ret R Q J) {x y : Int64} (hd : decode bytes pc = .ok (.ladd, 1)) (hr : J pc' Ls (.long (x + y) :: S) G k sl) (hp : pc + 1 = pc' := by rfl) : J pc Ls (.long y :: .long x :: S) G k sl := by
  obtain ⟨p, e, s, m, args, below, meth, c, rfl, hx, hby, hml, hret, hlk, hnm, hZ, hown, hw, hS⟩ := W
  subst hp
  intro T locs X hG hF
  obtain ⟨t, o, st, h⟩ := hr T locs X hG hF
  exact ⟨t, o, XT.ladd X.here hx rfl (Jvm.hb hby hd) rfl st, h⟩
theorem Walk.lsub (W : Walk tab sig l Z a0 n0 own nm bytes maxL ret R Q J) {x y : Int64} (hd : decode bytes pc = .ok (.lsub, 1)) (hr : J pc' Ls (.long (x - y) :: S) G k sl) (hp : pc + 1 = pc' := by rfl) : J pc Ls (.long y :: .long x :: S) G k sl := by
  obtain ⟨p, e, s, m, args, below, meth, c, rfl, hx, hby, hml, hret, hlk, hnm, hZ, hown, hw, hS⟩ := W
  subst hp
  intro T locs X hG hF
  obtain ⟨t, o, st, h⟩ := hr T locs X hG hF
  exact ⟨t, o, XT.lsub X.here hx rfl (Jvm.hb hby hd) rfl st, h⟩
theorem Walk.lmul (W : Walk tab sig l Z a0 n0 own nm bytes maxL ret R Q J) {x y : Int64} (hd : decode bytes pc = .ok (.lmul, 1)) (hr : J pc' Ls (.long (x * y) :: S) G k sl) (hp : pc + 1 = pc' := by rfl) : J pc Ls (.long y :: .long x :: S) G k sl := by
  obtain ⟨p, e, s, m, args, below, meth, c, rfl, hx, hby, hml, hret, hlk, hnm, hZ, hown, hw, hS⟩ := W
  subst hp
  intro T locs X hG hF
  obtain ⟨t, o, st, h⟩ := hr T locs X hG hF
  exact ⟨t, o, XT.lmul X.here hx rfl (Jvm.hb hby hd) rfl st, h⟩
theorem Walk.land (W : Walk tab sig l Z a0 n0 own nm bytes maxL ret R Q J) {x y : Int64} (hd : decode bytes pc = .ok (.land, 1)) (hr : J pc' Ls (.long (x &&& y) :: S) G k sl) (hp : pc + 1 = pc' := by rfl) : J pc Ls (.long y :: .long x :: S) G k sl := by
  obtain ⟨p, e, s, m, args, below, meth, c, rfl, hx, hby, hml, hret, hlk, hnm, hZ, hown, hw, hS⟩ := W
  subst hp
  intro T locs X hG hF
  obtain ⟨t, o, st, h⟩ := hr T locs X hG hF
  exact ⟨t, o, XT.land X.here hx rfl (Jvm.hb hby hd) rfl st, h⟩
theorem Walk.lor (W : Walk tab sig l Z a0 n0 own nm bytes maxL ret R Q J) {x y : Int64} (hd : decode bytes pc = .ok (.lor, 1)) (hr : J pc' Ls (.long (x ||| y) :: S) G k sl) (hp : pc + 1 = pc' := by rfl) : J pc Ls (.long y :: .long x :: S) G k sl := by
  obtain ⟨p, e, s, m, args, below, meth, c, rfl, hx, hby, hml, hret, hlk, hnm, hZ, hown, hw, hS⟩ := W
  subst hp
  intro T locs X hG hF
  obtain ⟨t, o, st, h⟩ := hr T locs X hG hF
  exact ⟨t, o, XT.lor X.here hx rfl (Jvm.hb hby hd) rfl st, h⟩
theorem Walk.lxor (W : Walk tab sig l Z a0 n0 own nm bytes maxL ret R Q J) {x y : Int64} (hd : decode bytes pc = .ok (.lxor, 1)) (hr : J pc' Ls (.long (x ^^^ y) :: S) G k sl) (hp : pc + 1 = pc' := by rfl) : J pc Ls (.long y :: .long x :: S) G k sl := by
  obtain ⟨p, e, s, m, args, below, meth, c, rfl, hx, hby, hml, hret, hlk, hnm, hZ, hown, hw, hS⟩ := W
  subst hp
  intro T locs X hG hF
  obtain ⟨t, o, st, h⟩ := hr T locs X hG hF
  exact ⟨t, o, XT.lxor X.here hx rfl (Jvm.hb hby hd) rfl st, h⟩
theorem Walk.lshl (W : Walk tab sig l Z a0 n0 own nm bytes maxL ret R Q J) {x : Int64} {y : Int32} (hd : decode bytes pc = .ok (.lshl, 1)) (hr : J pc' Ls (.long (x <<< (y.toInt64 &&& 63)) :: S) G k sl) (hp : pc + 1 = pc' := by rfl) : J pc Ls (.int y :: .long x :: S) G k sl := by
  obtain ⟨p, e, s, m, args, below, meth, c, rfl, hx, hby, hml, hret, hlk, hnm, hZ, hown, hw, hS⟩ := W
  subst hp
  intro T locs X hG hF
  obtain ⟨t, o, st, h⟩ := hr T locs X hG hF
  exact ⟨t, o, XT.lshl X.here hx rfl (Jvm.hb hby hd) rfl st, h⟩
theorem Walk.lshr (W : Walk tab sig l Z a0 n0 own nm bytes maxL ret R Q J) {x : Int64} {y : Int32} (hd : decode bytes pc = .ok (.lshr, 1)) (hr : J pc' Ls (.long (x >>> (y.toInt64 &&& 63)) :: S) G k sl) (hp : pc + 1 = pc' := by rfl) : J pc Ls (.int y :: .long x :: S) G k sl := by
  obtain ⟨p, e, s, m, args, below, meth, c, rfl, hx, hby, hml, hret, hlk, hnm, hZ, hown, hw, hS⟩ := W
  subst hp
  intro T locs X hG hF
  obtain ⟨t, o, st, h⟩ := hr T locs X hG hF
  exact ⟨t, o, XT.lshr X.here hx rfl (Jvm.hb hby hd) rfl st, h⟩
theorem Walk.lushr (W : Walk tab sig l Z a0 n0 own nm bytes maxL ret R Q J) {x : Int64} {y : Int32} (hd : decode bytes pc = .ok (.lushr, 1)) (hr : J pc' Ls (.long (XT.ushrL x y) :: S) G k sl) (hp : pc + 1 = pc' := by rfl) : J pc Ls (.int y :: .long x :: S) G k sl := by
  obtain ⟨p, e, s, m, args, below, meth, c, rfl, hx, hby, hml, hret, hlk, hnm, hZ, hown, hw, hS⟩ := W
  subst hp
  intro T locs X hG hF
  obtain ⟨t, o, st, h⟩ := hr T locs X hG hF
  exact ⟨t, o, XT.lushr X.here hx rfl (Jvm.hb hby hd) rfl st, h⟩
theorem Walk.ldiv (W : Walk tab sig l Z a0 n0 own nm bytes maxL ret R Q J) {x y : Int64} (hd : decode bytes pc = .ok (.ldiv, 1)) (hy : y ≠ 0) (hr : J pc' Ls (.long (x / y) :: S) G k sl) (hp : pc + 1 = pc' := by rfl) : J pc Ls (.long y :: .long x :: S) G k sl := by
  obtain ⟨p, e, s, m, args, below, meth, c, rfl, hx, hby, hml, hret, hlk, hnm, hZ, hown, hw, hS⟩ := W
  subst hp
  intro T locs X hG hF
  obtain ⟨t, o, st, h⟩ := hr T locs X hG hF
  exact ⟨t, o, XT.ldiv X.here hx rfl (Jvm.hb hby hd) rfl hy st, h⟩
theorem Walk.lrem (W : Walk tab sig l Z a0 n0 own nm bytes maxL ret R Q J) {x y : Int64} (hd : decode bytes pc = .ok (.lrem, 1)) (hy : y ≠ 0) (hr : J pc' Ls (.long (x - (x / y) * y) :: S) G k sl) (hp : pc + 1 = pc' := by rfl) : J pc Ls (.long y :: .long x :: S) G k sl := by
  obtain ⟨p, e, s, m, args, below, meth, c, rfl, hx, hby, hml, hret, hlk, hnm, hZ, hown, hw, hS⟩ := W
  subst hp
  intro T locs X hG hF
  obtain ⟨t, o, st, h⟩ := hr T locs X hG hF
  exact ⟨t, o, XT.lrem X.here hx rfl (Jvm.hb hby hd) rfl hy st, h⟩
theorem Walk.i2l (W : Walk tab sig l Z a0 n0 own nm bytes maxL ret R Q J) {x : Int32} (hd : decode bytes pc = .ok (.i2l, 1)) (hr : J pc' Ls (.long x.toInt64 :: S) G k sl) (hp : pc + 1 = pc' := by rfl) : J pc Ls (.int x :: S) G k sl := by
  obtain ⟨p, e, s, m, args, below, meth, c, rfl, hx, hby, hml, hret, hlk, hnm, hZ, hown, hw, hS⟩ := W
  subst hp
  intro T locs X hG hF
  obtain ⟨t, o, st, h⟩ := hr T locs X hG hF
  exact ⟨t, o, XT.i2l X.here hx rfl (Jvm.hb hby hd) rfl st, h⟩
theorem Walk.l2i (W : Walk tab sig l Z a0 n0 own nm bytes maxL ret R Q J) {x : Int64} (hd : decode bytes pc = .ok (.l2i, 1)) (hr : J pc' Ls (.int x.toInt32 :: S) G k sl) (hp : pc + 1 = pc' := by rfl) : J pc Ls (.long x :: S) G k sl := by
  obtain ⟨p, e, s, m, args, below, meth, c, rfl, hx, hby, hml, hret, hlk, hnm, hZ, hown, hw, hS⟩ := W
  subst hp
  intro T locs X hG hF
  obtain ⟨t, o, st, h⟩ := hr T locs X hG hF
  exact ⟨t, o, XT.l2i X.here hx rfl (Jvm.hb hby hd) rfl st, h⟩
theorem Walk.i2b (W : Walk tab sig l Z a0 n0 own nm bytes maxL ret R Q J) {x : Int32} (hd : decode bytes pc = .ok (.i2b, 1)) (hr : J pc' Ls (.int x.toInt8.toInt32 :: S) G k sl) (hp : pc + 1 = pc' := by rfl) : J pc Ls (.int x :: S) G k sl := by
  obtain ⟨p, e, s, m, args, below, meth, c, rfl, hx, hby, hml, hret, hlk, hnm, hZ, hown, hw, hS⟩ := W
  subst hp
  intro T locs X hG hF
  obtain ⟨t, o, st, h⟩ := hr T locs X hG hF
  exact ⟨t, o, XT.i2b X.here hx rfl (Jvm.hb hby hd) rfl st, h⟩
theorem Walk.lcmp (W : Walk tab sig l Z a0 n0 own nm bytes maxL ret R Q J) {x y : Int64} (hd : decode bytes pc = .ok (.lcmp, 1)) (hr : J pc' Ls (.int (XT.cmpL x y) :: S) G k sl) (hp : pc + 1 = pc' := by rfl) : J pc Ls (.long y :: .long x :: S) G k sl := by
  obtain ⟨p, e, s, m, args, below, meth, c, rfl, hx, hby, hml, hret, hlk, hnm, hZ, hown, hw, hS⟩ := W
  subst hp
  intro T locs X hG hF
  obtain ⟨t, o, st, h⟩ := hr T locs X hG hF
  exact ⟨t, o, XT.lcmp X.here hx rfl (Jvm.hb hby hd) rfl st, h⟩
theorem Walk.dup (W : Walk tab sig l Z a0 n0 own nm bytes maxL ret R Q J) {x : Value} (hd : decode bytes pc = .ok (.dup, 1)) (hc : x.category = 1) (hr : J pc' Ls (x :: x :: S) G k sl) (hp : pc + 1 = pc' := by rfl) : J pc Ls (x :: S) G k sl := by
  obtain ⟨p, e, s, m, args, below, meth, c, rfl, hx, hby, hml, hret, hlk, hnm, hZ, hown, hw, hS⟩ := W
  subst hp
  intro T locs X hG hF
  obtain ⟨t, o, st, h⟩ := hr T locs X hG hF
  exact ⟨t, o, XS.dup X.here hx rfl (Jvm.hb hby hd) rfl hc st, h⟩
theorem Walk.pop (W : Walk tab sig l Z a0 n0 own nm bytes maxL ret R Q J) {x : Value} (hd : decode bytes pc = .ok (.pop, 1)) (hc : x.category = 1) (hr : J pc' Ls (S) G k sl) (hp : pc + 1 = pc' := by rfl) : J pc Ls (x :: S) G k sl := by
  obtain ⟨p, e, s, m, args, below, meth, c, rfl, hx, hby, hml, hret, hlk, hnm, hZ, hown, hw, hS⟩ := W
  subst hp
  intro T locs X hG hF
  obtain ⟨t, o, st, h⟩ := hr T locs X hG hF
  exact ⟨t, o, XT.pop X.here hx rfl (Jvm.hb hby hd) rfl hc st, h⟩
theorem Walk.dupX1 (W : Walk tab sig l Z a0 n0 own nm bytes maxL ret R Q J) {x y : Value} (hd : decode bytes pc = .ok (.dup_x1, 1)) (hc : x.category = 1) (hc' : y.category = 1) (hr : J pc' Ls (x :: y :: x :: S) G k sl) (hp : pc + 1 = pc' := by rfl) : J pc Ls (x :: y :: S) G k sl := by
  obtain ⟨p, e, s, m, args, below, meth, c, rfl, hx, hby, hml, hret, hlk, hnm, hZ, hown, hw, hS⟩ := W
  subst hp
  intro T locs X hG hF
  obtain ⟨t, o, st, h⟩ := hr T locs X hG hF
  exact ⟨t, o, XT.dupX1 X.here hx rfl (Jvm.hb hby hd) rfl hc hc' st, h⟩
theorem Walk.dup2 (W : Walk tab sig l Z a0 n0 own nm bytes maxL ret R Q J) {x y : Value} (hd : decode bytes pc = .ok (.dup2, 1)) (hc : x.category = 1) (hc' : y.category = 1) (hr : J pc' Ls (x :: y :: x :: y :: S) G k sl) (hp : pc + 1 = pc' := by rfl) : J pc Ls (x :: y :: S) G k sl := by
  obtain ⟨p, e, s, m, args, below, meth, c, rfl, hx, hby, hml, hret, hlk, hnm, hZ, hown, hw, hS⟩ := W
  subst hp
  intro T locs X hG hF
  obtain ⟨t, o, st, h⟩ := hr T locs X hG hF
  exact ⟨t, o, XT.dup2 X.here hx rfl (Jvm.hb hby hd) rfl hc hc' st, h⟩
theorem Walk.dup2L (W : Walk tab sig l Z a0 n0 own nm bytes maxL ret R Q J) {x : Int64} (hd : decode bytes pc = .ok (.dup2, 1)) (hr : J pc' Ls (.long x :: .long x :: S) G k sl) (hp : pc + 1 = pc' := by rfl) : J pc Ls (.long x :: S) G k sl := by
  obtain ⟨p, e, s, m, args, below, meth, c, rfl, hx, hby, hml, hret, hlk, hnm, hZ, hown, hw, hS⟩ := W
  subst hp
  intro T locs X hG hF
  obtain ⟨t, o, st, h⟩ := hr T locs X hG hF
  exact ⟨t, o, XT.dup2L X.here hx rfl (Jvm.hb hby hd) rfl st, h⟩
theorem Walk.pop2L (W : Walk tab sig l Z a0 n0 own nm bytes maxL ret R Q J) {x : Int64} (hd : decode bytes pc = .ok (.pop2, 1)) (hr : J pc' Ls (S) G k sl) (hp : pc + 1 = pc' := by rfl) : J pc Ls (.long x :: S) G k sl := by
  obtain ⟨p, e, s, m, args, below, meth, c, rfl, hx, hby, hml, hret, hlk, hnm, hZ, hown, hw, hS⟩ := W
  subst hp
  intro T locs X hG hF
  obtain ⟨t, o, st, h⟩ := hr T locs X hG hF
  exact ⟨t, o, pop2L_step X hx (Jvm.hb hby hd) st, h⟩
theorem Walk.istore (W : Walk tab sig l Z a0 n0 own nm bytes maxL ret R Q J) {i : Nat} {x : Int32} (hd : decode bytes pc = .ok (.istore i, 2)) (ho : ok1 Ls[i]? = true) (hr : J pc' (Ls.set i (.val (.int x))) (S) G k sl) (hp : pc + 2 = pc' := by rfl) : J pc Ls (.int x :: S) G k sl := by
  obtain ⟨p, e, s, m, args, below, meth, c, rfl, hx, hby, hml, hret, hlk, hnm, hZ, hown, hw, hS⟩ := W
  subst hp
  intro T locs X hG hF
  obtain ⟨t, o, st, h⟩ := hr T locs X hG hF
  exact ⟨t, o, XS.istore X.here hx rfl (Jvm.hb hby hd) rfl (store_one ho rfl) st, h⟩
theorem Walk.istoreN (W : Walk tab sig l Z a0 n0 own nm bytes maxL ret R Q J) {i : Fin 4} {i' : Nat} {x : Int32} (hd : decode bytes pc = .ok (.istore_n i, 1)) (ho : ok1 Ls[i']? = true) (hr : J pc' (Ls.set i' (.val (.int x))) (S) G k sl) (hp : pc + 1 = pc' := by rfl) (hi : i.val = i' := by rfl) : J pc Ls (.int x :: S) G k sl := by
  obtain ⟨p, e, s, m, args, below, meth, c, rfl, hx, hby, hml, hret, hlk, hnm, hZ, hown, hw, hS⟩ := W
  subst hp
  intro T locs X hG hF
  obtain ⟨t, o, st, h⟩ := hr T locs X hG hF
  exact ⟨t, o, by subst hi; exact XS.istoreN X.here hx rfl (Jvm.hb hby hd) rfl (store_one ho rfl) st, h⟩
theorem Walk.astore (W : Walk tab sig l Z a0 n0 own nm bytes maxL ret R Q J) {i : Nat} {x : Value} (hd : decode bytes pc = .ok (.astore i, 2)) (hv : x.isRef = true) (ho : ok1 Ls[i]? = true) (hr : J pc' (Ls.set i (.val x)) (S) G k sl) (hp : pc + 2 = pc' := by rfl) : J pc Ls (x :: S) G k sl := by
  obtain ⟨p, e, s, m, args, below, meth, c, rfl, hx, hby, hml, hret, hlk, hnm, hZ, hown, hw, hS⟩ := W
  subst hp
  intro T locs X hG hF
  obtain ⟨t, o, st, h⟩ := hr T locs X hG hF
  exact ⟨t, o, XS.astore X.here hx rfl (Jvm.hb hby hd) rfl hv (store_one ho (XT.cat1 hv)) st, h⟩
theorem Walk.astoreN (W : Walk tab sig l Z a0 n0 own nm bytes maxL ret R Q J) {i : Fin 4} {i' : Nat} {x : Value} (hd : decode bytes pc = .ok (.astore_n i, 1)) (hv : x.isRef = true) (ho : ok1 Ls[i']? = true) (hr : J pc' (Ls.set i' (.val x)) (S) G k sl) (hp : pc + 1 = pc' := by rfl) (hi : i.val = i' := by rfl) : J pc Ls (x :: S) G k sl := by
  obtain ⟨p, e, s, m, args, below, meth, c, rfl, hx, hby, hml, hret, hlk, hnm, hZ, hown, hw, hS⟩ := W
  subst hp
  intro T locs X hG hF
  obtain ⟨t, o, st, h⟩ := hr T locs X hG hF
  exact ⟨t, o, by subst hi; exact XS.astoreN X.here hx rfl (Jvm.hb hby hd) rfl hv (store_one ho (XT.cat1 hv)) st, h⟩
theorem Walk.lstore (W : Walk tab sig l Z a0 n0 own nm bytes maxL ret R Q J) {i : Nat} {x : Int64} (hd : decode bytes pc = .ok (.lstore i, 2)) (ho : ok2 Ls[i]? Ls[i + 1]? = true) (hr : J pc' ((Ls.set i (.val (.long x))).set (i + 1) .second) (S) G k sl) (hp : pc + 2 = pc' := by rfl) : J pc Ls (.long x :: S) G k sl := by
  obtain ⟨p, e, s, m, args, below, meth, c, rfl, hx, hby, hml, hret, hlk, hnm, hZ, hown, hw, hS⟩ := W
  subst hp
  intro T locs X hG hF
  obtain ⟨t, o, st, h⟩ := hr T locs X hG hF
  exact ⟨t, o, XT.lstore X.here hx rfl (Jvm.hb hby hd) rfl (store_two ho) st, h⟩
theorem Walk.lstoreN (W : Walk tab sig l Z a0 n0 own nm bytes maxL ret R Q J) {i : Fin 4} {i' : Nat} {x : Int64} (hd : decode bytes pc = .ok (.lstore_n i, 1)) (ho : ok2 Ls[i']? Ls[i' + 1]? = true) (hr : J pc' ((Ls.set i' (.val (.long x))).set (i' + 1) .second) (S) G k sl) (hp : pc + 1 = pc' := by rfl) (hi : i.val = i' := by rfl) : J pc Ls (.long x :: S) G k sl := by
  obtain ⟨p, e, s, m, args, below, meth, c, rfl, hx, hby, hml, hret, hlk, hnm, hZ, hown, hw, hS⟩ := W
  subst hp
  intro T locs X hG hF
  obtain ⟨t, o, st, h⟩ := hr T locs X hG hF
  exact ⟨t, o, by subst hi; exact XT.lstoreN X.here hx rfl (Jvm.hb hby hd) rfl (store_two ho) st, h⟩
theorem Walk.iinc (W : Walk tab sig l Z a0 n0 own nm bytes maxL ret R Q J) {i : Nat} {cst : Int} (v : Int32) {x : Int32} (hd : decode bytes pc = .ok (.iinc i cst, 3)) (hv : Int32.ofInt cst = v) (hl : Ls[i]? = some (.val (.int x))) (hr : J pc' (Ls.set i (.val (.int (x + v)))) (S) G k sl) (hp : pc + 3 = pc' := by rfl) : J pc Ls (S) G k sl := by
  obtain ⟨p, e, s, m, args, below, meth, c, rfl, hx, hby, hml, hret, hlk, hnm, hZ, hown, hw, hS⟩ := W
  subst hp
  intro T locs X hG hF
  obtain ⟨t, o, st, h⟩ := hr T locs X hG hF
  exact ⟨t, o, XT.iincV X.here hx rfl v (Jvm.hb hby hd) hv (by simpa using hl) (store_one (by rw [hl]; rfl) rfl) st, h⟩
theorem Walk.ldcI (W : Walk tab sig l Z a0 n0 own nm bytes maxL ret R Q J) {i : Nat} {v : Int32} (hd : decode bytes pc = .ok (.ldc i, 2)) (hc : Jvm.Cond.constant own i v ∈ tab) (hr : J pc' Ls (.int v :: S) G k sl) (hp : pc + 2 = pc' := by rfl) : J pc Ls (S) G k sl := by
  obtain ⟨p, e, s, m, args, below, meth, c, rfl, hx, hby, hml, hret, hlk, hnm, hZ, hown, hw, hS⟩ := W
  subst hp
  intro T locs X hG hF
  obtain ⟨t, o, st, h⟩ := hr T locs X hG hF
  exact ⟨t, o, X.ldcInt hx hown (mvT hZ (hw _ hc)) (g := mkF m pc Ls.toArray S) rfl (Jvm.hb hby hd) _ st, h⟩
theorem Walk.ldcwI (W : Walk tab sig l Z a0 n0 own nm bytes maxL ret R Q J) {i : Nat} {v : Int32} (hd : decode bytes pc = .ok (.ldc_w i, 3)) (hc : Jvm.Cond.constant own i v ∈ tab) (hr : J pc' Ls (.int v :: S) G k sl) (hp : pc + 3 = pc' := by rfl) : J pc Ls (S) G k sl := by
  obtain ⟨p, e, s, m, args, below, meth, c, rfl, hx, hby, hml, hret, hlk, hnm, hZ, hown, hw, hS⟩ := W
  subst hp
  intro T locs X hG hF
  obtain ⟨t, o, st, h⟩ := hr T locs X hG hF
  exact ⟨t, o, X.ldcwInt hx hown (mvT hZ (hw _ hc)) (g := mkF m pc Ls.toArray S) rfl (Jvm.hb hby hd) _ st, h⟩
theorem Walk.ldc2J (W : Walk tab sig l Z a0 n0 own nm bytes maxL ret R Q J) {i : Nat} {v : Int64} (hd : decode bytes pc = .ok (.ldc2_w i, 3)) (hc : Jvm.Cond.constantLong own i v ∈ tab) (hr : J pc' Ls (.long v :: S) G k sl) (hp : pc + 3 = pc' := by rfl) : J pc Ls (S) G k sl := by
  obtain ⟨p, e, s, m, args, below, meth, c, rfl, hx, hby, hml, hret, hlk, hnm, hZ, hown, hw, hS⟩ := W
  subst hp
  intro T locs X hG hF
  obtain ⟨t, o, st, h⟩ := hr T locs X hG hF
  exact ⟨t, o, X.ldc2Long hx hown (mvT hZ (hw _ hc)) (g := mkF m pc Ls.toArray S) rfl (Jvm.hb hby hd) _ st, h⟩
theorem Walk.goto (W : Walk tab sig l Z a0 n0 own nm bytes maxL ret R Q J) {o : Int} (hd : decode bytes pc = .ok (.goto o, 3)) (hr : J pc' Ls S G k sl) (ho : 0 ≤ (pc : Int) + o := by decide) (hp : ((pc : Int) + o).toNat = pc' := by decide) : J pc Ls S G k sl := by
  obtain ⟨p, e, s, m, args, below, meth, c, rfl, hx, hby, hml, hret, hlk, hnm, hZ, hown, hw, hS⟩ := W
  intro T locs X hG hF
  obtain ⟨t, o, st, h⟩ := hr T locs X hG hF
  exact ⟨t, o, XS.goto X.here hx rfl rfl (Jvm.hb hby hd) ho hp st, h⟩
theorem Walk.if_eq (W : Walk tab sig l Z a0 n0 own nm bytes maxL ret R Q J) {x : Int32} {o : Int} {pc2 : Nat} (hd : decode bytes pc = .ok (.ifCond .eq o, 3)) (hT : (x = 0) → J pc' Ls S G k sl) (hF' : ¬ (x = 0) → J pc2 Ls S G k sl) (ho : 0 ≤ (pc : Int) + o := by decide) (hp : ((pc : Int) + o).toNat = pc' := by decide) (hp2 : pc + 3 = pc2 := by rfl) : J pc Ls (.int x :: S) G k sl := by
  obtain ⟨p, e, s, m, args, below, meth, c, rfl, hx, hby, hml, hret, hlk, hnm, hZ, hown, hw, hS⟩ := W
  subst hp2
  intro T locs X hG hF
  by_cases q : (x = 0)
  · obtain ⟨t, o, st, h⟩ := hT q T locs X hG hF
    exact ⟨t, o, XS.ifYes X.here hx rfl rfl (Jvm.hb hby hd) rfl (XT.i0_eq_t q) ho hp st, h⟩
  · obtain ⟨t, o, st, h⟩ := hF' q T locs X hG hF
    exact ⟨t, o, XS.ifNo X.here hx rfl (Jvm.hb hby hd) rfl (XT.i0_eq_f q) st, h⟩
theorem Walk.icmp_eq (W : Walk tab sig l Z a0 n0 own nm bytes maxL ret R Q J) {x y : Int32} {o : Int} {pc2 : Nat} (hd : decode bytes pc = .ok (.if_icmp .eq o, 3)) (hT : (x = y) → J pc' Ls S G k sl) (hF' : ¬ (x = y) → J pc2 Ls S G k sl) (ho : 0 ≤ (pc : Int) + o := by decide) (hp : ((pc : Int) + o).toNat = pc' := by decide) (hp2 : pc + 3 = pc2 := by rfl) : J pc Ls (.int y :: .int x :: S) G k sl := by
  obtain ⟨p, e, s, m, args, below, meth, c, rfl, hx, hby, hml, hret, hlk, hnm, hZ, hown, hw, hS⟩ := W
  subst hp2
  intro T locs X hG hF
  by_cases q : (x = y)
  · obtain ⟨t, o, st, h⟩ := hT q T locs X hG hF
    exact ⟨t, o, XS.icmpYes X.here hx rfl rfl (Jvm.hb hby hd) rfl (XT.ii_eq_t q) ho hp st, h⟩
  · obtain ⟨t, o, st, h⟩ := hF' q T locs X hG hF
    exact ⟨t, o, XS.icmpNo X.here hx rfl (Jvm.hb hby hd) rfl (XT.ii_eq_f q) st, h⟩
theorem Walk.ifl_eq (W : Walk tab sig l Z a0 n0 own nm bytes maxL ret R Q J) {x y : Int64} {o : Int} {pc2 : Nat} (hd : decode bytes pc = .ok (.ifCond .eq o, 3)) (hT : (x = y) → J pc' Ls S G k sl) (hF' : ¬ (x = y) → J pc2 Ls S G k sl) (ho : 0 ≤ (pc : Int) + o := by decide) (hp : ((pc : Int) + o).toNat = pc' := by decide) (hp2 : pc + 3 = pc2 := by rfl) : J pc Ls (.int (XT.cmpL x y) :: S) G k sl := by
  obtain ⟨p, e, s, m, args, below, meth, c, rfl, hx, hby, hml, hret, hlk, hnm, hZ, hown, hw, hS⟩ := W
  subst hp2
  intro T locs X hG hF
  by_cases q : (x = y)
  · obtain ⟨t, o, st, h⟩ := hT q T locs X hG hF
    exact ⟨t, o, XS.ifYes X.here hx rfl rfl (Jvm.hb hby hd) rfl (XT.ll_eq_t q) ho hp st, h⟩
  · obtain ⟨t, o, st, h⟩ := hF' q T locs X hG hF
    exact ⟨t, o, XS.ifNo X.here hx rfl (Jvm.hb hby hd) rfl (XT.ll_eq_f q) st, h⟩
theorem Walk.if_ne (W : Walk tab sig l Z a0 n0 own nm bytes maxL ret R Q J) {x : Int32} {o : Int} {pc2 : Nat} (hd : decode bytes pc = .ok (.ifCond .ne o, 3)) (hT : (x = 0) → J pc2 Ls S G k sl) (hF' : ¬ (x = 0) → J pc' Ls S G k sl) (ho : 0 ≤ (pc : Int) + o := by decide) (hp : ((pc : Int) + o).toNat = pc' := by decide) (hp2 : pc + 3 = pc2 := by rfl) : J pc Ls (.int x :: S) G k sl := by
  obtain ⟨p, e, s, m, args, below, meth, c, rfl, hx, hby, hml, hret, hlk, hnm, hZ, hown, hw, hS⟩ := W
  subst hp2
  intro T locs X hG hF
  by_cases q : (x = 0)
  · obtain ⟨t, o, st, h⟩ := hT q T locs X hG hF
    exact ⟨t, o, XS.ifNo X.here hx rfl (Jvm.hb hby hd) rfl (XT.i0_ne_f q) st, h⟩
  · obtain ⟨t, o, st, h⟩ := hF' q T locs X hG hF
    exact ⟨t, o, XS.ifYes X.here hx rfl rfl (Jvm.hb hby hd) rfl (XT.i0_ne_t q) ho hp st, h⟩
theorem Walk.icmp_ne (W : Walk tab sig l Z a0 n0 own nm bytes maxL ret R Q J) {x y : Int32} {o : Int} {pc2 : Nat} (hd : decode bytes pc = .ok (.if_icmp .ne o, 3)) (hT : (x = y) → J pc2 Ls S G k sl) (hF' : ¬ (x = y) → J pc' Ls S G k sl) (ho : 0 ≤ (pc : Int) + o := by decide) (hp : ((pc : Int) + o).toNat = pc' := by decide) (hp2 : pc + 3 = pc2 := by rfl) : J pc Ls (.int y :: .int x :: S) G k sl := by
  obtain ⟨p, e, s, m, args, below, meth, c, rfl, hx, hby, hml, hret, hlk, hnm, hZ, hown, hw, hS⟩ := W
  subst hp2
  intro T locs X hG hF
  by_cases q : (x = y)
  · obtain ⟨t, o, st, h⟩ := hT q T locs X hG hF
    exact ⟨t, o, XS.icmpNo X.here hx rfl (Jvm.hb hby hd) rfl (XT.ii_ne_f q) st, h⟩
  · obtain ⟨t, o, st, h⟩ := hF' q T locs X hG hF
    exact ⟨t, o, XS.icmpYes X.here hx rfl rfl (Jvm.hb hby hd) rfl (XT.ii_ne_t q) ho hp st, h⟩
theorem Walk.ifl_ne (W : Walk tab sig l Z a0 n0 own nm bytes maxL ret R Q J) {x y : Int64} {o : Int} {pc2 : Nat} (hd : decode bytes pc = .ok (.ifCond .ne o, 3)) (hT : (x = y) → J pc2 Ls S G k sl) (hF' : ¬ (x = y) → J pc' Ls S G k sl) (ho : 0 ≤ (pc : Int) + o := by decide) (hp : ((pc : Int) + o).toNat = pc' := by decide) (hp2 : pc + 3 = pc2 := by rfl) : J pc Ls (.int (XT.cmpL x y) :: S) G k sl := by
  obtain ⟨p, e, s, m, args, below, meth, c, rfl, hx, hby, hml, hret, hlk, hnm, hZ, hown, hw, hS⟩ := W
  subst hp2
  intro T locs X hG hF
  by_cases q : (x = y)
  · obtain ⟨t, o, st, h⟩ := hT q T locs X hG hF
    exact ⟨t, o, XS.ifNo X.here hx rfl (Jvm.hb hby hd) rfl (XT.ll_ne_f q) st, h⟩
  · obtain ⟨t, o, st, h⟩ := hF' q T locs X hG hF
    exact ⟨t, o, XS.ifYes X.here hx rfl rfl (Jvm.hb hby hd) rfl (XT.ll_ne_t q) ho hp st, h⟩
theorem Walk.if_lt (W : Walk tab sig l Z a0 n0 own nm bytes maxL ret R Q J) {x : Int32} {o : Int} {pc2 : Nat} (hd : decode bytes pc = .ok (.ifCond .lt o, 3)) (hT : (x < 0) → J pc' Ls S G k sl) (hF' : ¬ (x < 0) → J pc2 Ls S G k sl) (ho : 0 ≤ (pc : Int) + o := by decide) (hp : ((pc : Int) + o).toNat = pc' := by decide) (hp2 : pc + 3 = pc2 := by rfl) : J pc Ls (.int x :: S) G k sl := by
  obtain ⟨p, e, s, m, args, below, meth, c, rfl, hx, hby, hml, hret, hlk, hnm, hZ, hown, hw, hS⟩ := W
  subst hp2
  intro T locs X hG hF
  by_cases q : (x < 0)
  · obtain ⟨t, o, st, h⟩ := hT q T locs X hG hF
    exact ⟨t, o, XS.ifYes X.here hx rfl rfl (Jvm.hb hby hd) rfl (XT.i0_lt_t q) ho hp st, h⟩
  · obtain ⟨t, o, st, h⟩ := hF' q T locs X hG hF
    exact ⟨t, o, XS.ifNo X.here hx rfl (Jvm.hb hby hd) rfl (XT.i0_lt_f q) st, h⟩
theorem Walk.icmp_lt (W : Walk tab sig l Z a0 n0 own nm bytes maxL ret R Q J) {x y : Int32} {o : Int} {pc2 : Nat} (hd : decode bytes pc = .ok (.if_icmp .lt o, 3)) (hT : (x < y) → J pc' Ls S G k sl) (hF' : ¬ (x < y) → J pc2 Ls S G k sl) (ho : 0 ≤ (pc : Int) + o := by decide) (hp : ((pc : Int) + o).toNat = pc' := by decide) (hp2 : pc + 3 = pc2 := by rfl) : J pc Ls (.int y :: .int x :: S) G k sl := by
  obtain ⟨p, e, s, m, args, below, meth, c, rfl, hx, hby, hml, hret, hlk, hnm, hZ, hown, hw, hS⟩ := W
  subst hp2
  intro T locs X hG hF
  by_cases q : (x < y)
  · obtain ⟨t, o, st, h⟩ := hT q T locs X hG hF
    exact ⟨t, o, XS.icmpYes X.here hx rfl rfl (Jvm.hb hby hd) rfl (XT.ii_lt_t q) ho hp st, h⟩
  · obtain ⟨t, o, st, h⟩ := hF' q T locs X hG hF
    exact ⟨t, o, XS.icmpNo X.here hx rfl (Jvm.hb hby hd) rfl (XT.ii_lt_f q) st, h⟩
theorem Walk.ifl_lt (W : Walk tab sig l Z a0 n0 own nm bytes maxL ret R Q J) {x y : Int64} {o : Int} {pc2 : Nat} (hd : decode bytes pc = .ok (.ifCond .lt o, 3)) (hT : (x < y) → J pc' Ls S G k sl) (hF' : ¬ (x < y) → J pc2 Ls S G k sl) (ho : 0 ≤ (pc : Int) + o := by decide) (hp : ((pc : Int) + o).toNat = pc' := by decide) (hp2 : pc + 3 = pc2 := by rfl) : J pc Ls (.int (XT.cmpL x y) :: S) G k sl := by
  obtain ⟨p, e, s, m, args, below, meth, c, rfl, hx, hby, hml, hret, hlk, hnm, hZ, hown, hw, hS⟩ := W
  subst hp2
  intro T locs X hG hF
  by_cases q : (x < y)
  · obtain ⟨t, o, st, h⟩ := hT q T locs X hG hF
    exact ⟨t, o, XS.ifYes X.here hx rfl rfl (Jvm.hb hby hd) rfl (XT.ll_lt_t q) ho hp st, h⟩
  · obtain ⟨t, o, st, h⟩ := hF' q T locs X hG hF
    exact ⟨t, o, XS.ifNo X.here hx rfl (Jvm.hb hby hd) rfl (XT.ll_lt_f q) st, h⟩
theorem Walk.if_ge (W : Walk tab sig l Z a0 n0 own nm bytes maxL ret R Q J) {x : Int32} {o : Int} {pc2 : Nat} (hd : decode bytes pc = .ok (.ifCond .ge o, 3)) (hT : (x < 0) → J pc2 Ls S G k sl) (hF' : ¬ (x < 0) → J pc' Ls S G k sl) (ho : 0 ≤ (pc : Int) + o := by decide) (hp : ((pc : Int) + o).toNat = pc' := by decide) (hp2 : pc + 3 = pc2 := by rfl) : J pc Ls (.int x :: S) G k sl := by
  obtain ⟨p, e, s, m, args, below, meth, c, rfl, hx, hby, hml, hret, hlk, hnm, hZ, hown, hw, hS⟩ := W
  subst hp2
  intro T locs X hG hF
  by_cases q : (x < 0)
  · obtain ⟨t, o, st, h⟩ := hT q T locs X hG hF
    exact ⟨t, o, XS.ifNo X.here hx rfl (Jvm.hb hby hd) rfl (XT.i0_ge_f q) st, h⟩
  · obtain ⟨t, o, st, h⟩ := hF' q T locs X hG hF
    exact ⟨t, o, XS.ifYes X.here hx rfl rfl (Jvm.hb hby hd) rfl (XT.i0_ge_t q) ho hp st, h⟩
theorem Walk.icmp_ge (W : Walk tab sig l Z a0 n0 own nm bytes maxL ret R Q J) {x y : Int32} {o : Int} {pc2 : Nat} (hd : decode bytes pc = .ok (.if_icmp .ge o, 3)) (hT : (x < y) → J pc2 Ls S G k sl) (hF' : ¬ (x < y) → J pc' Ls S G k sl) (ho : 0 ≤ (pc : Int) + o := by decide) (hp : ((pc : Int) + o).toNat = pc' := by decide) (hp2 : pc + 3 = pc2 := by rfl) : J pc Ls (.int y :: .int x :: S) G k sl := by
  obtain ⟨p, e, s, m, args, below, meth, c, rfl, hx, hby, hml, hret, hlk, hnm, hZ, hown, hw, hS⟩ := W
  subst hp2
  intro T locs X hG hF
  by_cases q : (x < y)
  · obtain ⟨t, o, st, h⟩ := hT q T locs X hG hF
    exact ⟨t, o, XS.icmpNo X.here hx rfl (Jvm.hb hby hd) rfl (XT.ii_ge_f q) st, h⟩
  · obtain ⟨t, o, st, h⟩ := hF' q T locs X hG hF
    exact ⟨t, o, XS.icmpYes X.here hx rfl rfl (Jvm.hb hby hd) rfl (XT.ii_ge_t q) ho hp st, h⟩
theorem Walk.ifl_ge (W : Walk tab sig l Z a0 n0 own nm bytes maxL ret R Q J) {x y : Int64} {o : Int} {pc2 : Nat} (hd : decode bytes pc = .ok (.ifCond .ge o, 3)) (hT : (x < y) → J pc2 Ls S G k sl) (hF' : ¬ (x < y) → J pc' Ls S G k sl) (ho : 0 ≤ (pc : Int) + o := by decide) (hp : ((pc : Int) + o).toNat = pc' := by decide) (hp2 : pc + 3 = pc2 := by rfl) : J pc Ls (.int (XT.cmpL x y) :: S) G k sl := by
  obtain ⟨p, e, s, m, args, below, meth, c, rfl, hx, hby, hml, hret, hlk, hnm, hZ, hown, hw, hS⟩ := W
  subst hp2
  intro T locs X hG hF
  by_cases q : (x < y)
  · obtain ⟨t, o, st, h⟩ := hT q T locs X hG hF
    exact ⟨t, o, XS.ifNo X.here hx rfl (Jvm.hb hby hd) rfl (XT.ll_ge_f q) st, h⟩
  · obtain ⟨t, o, st, h⟩ := hF' q T locs X hG hF
    exact ⟨t, o, XS.ifYes X.here hx rfl rfl (Jvm.hb hby hd) rfl (XT.ll_ge_t q) ho hp st, h⟩
theorem Walk.if_gt (W : Walk tab sig l Z a0 n0 own nm bytes maxL ret R Q J) {x : Int32} {o : Int} {pc2 : Nat} (hd : decode bytes pc = .ok (.ifCond .gt o, 3)) (hT : (0 < x) → J pc' Ls S G k sl) (hF' : ¬ (0 < x) → J pc2 Ls S G k sl) (ho : 0 ≤ (pc : Int) + o := by decide) (hp : ((pc : Int) + o).toNat = pc' := by decide) (hp2 : pc + 3 = pc2 := by rfl) : J pc Ls (.int x :: S) G k sl := by
  obtain ⟨p, e, s, m, args, below, meth, c, rfl, hx, hby, hml, hret, hlk, hnm, hZ, hown, hw, hS⟩ := W
  subst hp2
  intro T locs X hG hF
  by_cases q : (0 < x)
  · obtain ⟨t, o, st, h⟩ := hT q T locs X hG hF
    exact ⟨t, o, XS.ifYes X.here hx rfl rfl (Jvm.hb hby hd) rfl (XT.i0_gt_t q) ho hp st, h⟩
  · obtain ⟨t, o, st, h⟩ := hF' q T locs X hG hF
    exact ⟨t, o, XS.ifNo X.here hx rfl (Jvm.hb hby hd) rfl (XT.i0_gt_f q) st, h⟩
theorem Walk.icmp_gt (W : Walk tab sig l Z a0 n0 own nm bytes maxL ret R Q J) {x y : Int32} {o : Int} {pc2 : Nat} (hd : decode bytes pc = .ok (.if_icmp .gt o, 3)) (hT : (y < x) → J pc' Ls S G k sl) (hF' : ¬ (y < x) → J pc2 Ls S G k sl) (ho : 0 ≤ (pc : Int) + o := by decide) (hp : ((pc : Int) + o).toNat = pc' := by decide) (hp2 : pc + 3 = pc2 := by rfl) : J pc Ls (.int y :: .int x :: S) G k sl := by
  obtain ⟨p, e, s, m, args, below, meth, c, rfl, hx, hby, hml, hret, hlk, hnm, hZ, hown, hw, hS⟩ := W
  subst hp2
  intro T locs X hG hF
  by_cases q : (y < x)
  · obtain ⟨t, o, st, h⟩ := hT q T locs X hG hF
    exact ⟨t, o, XS.icmpYes X.here hx rfl rfl (Jvm.hb hby hd) rfl (XT.ii_gt_t q) ho hp st, h⟩
  · obtain ⟨t, o, st, h⟩ := hF' q T locs X hG hF
    exact ⟨t, o, XS.icmpNo X.here hx rfl (Jvm.hb hby hd) rfl (XT.ii_gt_f q) st, h⟩
theorem Walk.ifl_gt (W : Walk tab sig l Z a0 n0 own nm bytes maxL ret R Q J) {x y : Int64} {o : Int} {pc2 : Nat} (hd : decode bytes pc = .ok (.ifCond .gt o, 3)) (hT : (y < x) → J pc' Ls S G k sl) (hF' : ¬ (y < x) → J pc2 Ls S G k sl) (ho : 0 ≤ (pc : Int) + o := by decide) (hp : ((pc : Int) + o).toNat = pc' := by decide) (hp2 : pc + 3 = pc2 := by rfl) : J pc Ls (.int (XT.cmpL x y) :: S) G k sl := by
  obtain ⟨p, e, s, m, args, below, meth, c, rfl, hx, hby, hml, hret, hlk, hnm, hZ, hown, hw, hS⟩ := W
  subst hp2
  intro T locs X hG hF
  by_cases q : (y < x)
  · obtain ⟨t, o, st, h⟩ := hT q T locs X hG hF
    exact ⟨t, o, XS.ifYes X.here hx rfl rfl (Jvm.hb hby hd) rfl (XT.ll_gt_t q) ho hp st, h⟩
  · obtain ⟨t, o, st, h⟩ := hF' q T locs X hG hF
    exact ⟨t, o, XS.ifNo X.here hx rfl (Jvm.hb hby hd) rfl (XT.ll_gt_f q) st, h⟩
theorem Walk.if_le (W : Walk tab sig l Z a0 n0 own nm bytes maxL ret R Q J) {x : Int32} {o : Int} {pc2 : Nat} (hd : decode bytes pc = .ok (.ifCond .le o, 3)) (hT : (0 < x) → J pc2 Ls S G k sl) (hF' : ¬ (0 < x) → J pc' Ls S G k sl) (ho : 0 ≤ (pc : Int) + o := by decide) (hp : ((pc : Int) + o).toNat = pc' := by decide) (hp2 : pc + 3 = pc2 := by rfl) : J pc Ls (.int x :: S) G k sl := by
  obtain ⟨p, e, s, m, args, below, meth, c, rfl, hx, hby, hml, hret, hlk, hnm, hZ, hown, hw, hS⟩ := W
  subst hp2
  intro T locs X hG hF
  by_cases q : (0 < x)
  · obtain ⟨t, o, st, h⟩ := hT q T locs X hG hF
    exact ⟨t, o, XS.ifNo X.here hx rfl (Jvm.hb hby hd) rfl (XT.i0_le_f q) st, h⟩
  · obtain ⟨t, o, st, h⟩ := hF' q T locs X hG hF
    exact ⟨t, o, XS.ifYes X.here hx rfl rfl (Jvm.hb hby hd) rfl (XT.i0_le_t q) ho hp st, h⟩
theorem Walk.icmp_le (W : Walk tab sig l Z a0 n0 own nm bytes maxL ret R Q J) {x y : Int32} {o : Int} {pc2 : Nat} (hd : decode bytes pc = .ok (.if_icmp .le o, 3)) (hT : (y < x) → J pc2 Ls S G k sl) (hF' : ¬ (y < x) → J pc' Ls S G k sl) (ho : 0 ≤ (pc : Int) + o := by decide) (hp : ((pc : Int) + o).toNat = pc' := by decide) (hp2 : pc + 3 = pc2 := by rfl) : J pc Ls (.int y :: .int x :: S) G k sl := by
  obtain ⟨p, e, s, m, args, below, meth, c, rfl, hx, hby, hml, hret, hlk, hnm, hZ, hown, hw, hS⟩ := W
  subst hp2
  intro T locs X hG hF
  by_cases q : (y < x)
  · obtain ⟨t, o, st, h⟩ := hT q T locs X hG hF
    exact ⟨t, o, XS.icmpNo X.here hx rfl (Jvm.hb hby hd) rfl (XT.ii_le_f q) st, h⟩
  · obtain ⟨t, o, st, h⟩ := hF' q T locs X hG hF
    exact ⟨t, o, XS.icmpYes X.here hx rfl rfl (Jvm.hb hby hd) rfl (XT.ii_le_t q) ho hp st, h⟩
theorem Walk.ifl_le (W : Walk tab sig l Z a0 n0 own nm bytes maxL ret R Q J) {x y : Int64} {o : Int} {pc2 : Nat} (hd : decode bytes pc = .ok (.ifCond .le o, 3)) (hT : (y < x) → J pc2 Ls S G k sl) (hF' : ¬ (y < x) → J pc' Ls S G k sl) (ho : 0 ≤ (pc : Int) + o := by decide) (hp : ((pc : Int) + o).toNat = pc' := by decide) (hp2 : pc + 3 = pc2 := by rfl) : J pc Ls (.int (XT.cmpL x y) :: S) G k sl := by
  obtain ⟨p, e, s, m, args, below, meth, c, rfl, hx, hby, hml, hret, hlk, hnm, hZ, hown, hw, hS⟩ := W
  subst hp2
  intro T locs X hG hF
  by_cases q : (y < x)
  · obtain ⟨t, o, st, h⟩ := hT q T locs X hG hF
    exact ⟨t, o, XS.ifNo X.here hx rfl (Jvm.hb hby hd) rfl (XT.ll_le_f q) st, h⟩
  · obtain ⟨t, o, st, h⟩ := hF' q T locs X hG hF
    exact ⟨t, o, XS.ifYes X.here hx rfl rfl (Jvm.hb hby hd) rfl (XT.ll_le_t q) ho hp st, h⟩
theorem Walk.ifnull_t (W : Walk tab sig l Z a0 n0 own nm bytes maxL ret R Q J)  {o : Int} (hd : decode bytes pc = .ok (.ifnull o, 3)) (hr : J pc' Ls S G k sl) (ho : 0 ≤ (pc : Int) + o := by decide) (hp : ((pc : Int) + o).toNat = pc' := by decide) : J pc Ls (.null :: S) G k sl := by
  obtain ⟨p, e, s, m, args, below, meth, c, rfl, hx, hby, hml, hret, hlk, hnm, hZ, hown, hw, hS⟩ := W
  intro T locs X hG hF
  obtain ⟨t, o, st, h⟩ := hr T locs X hG hF
  exact ⟨t, o, XS.ifnullYes X.here hx rfl rfl (Jvm.hb hby hd) rfl ho hp st, h⟩
theorem Walk.ifnull_f (W : Walk tab sig l Z a0 n0 own nm bytes maxL ret R Q J) {a : Addr} {o : Int} (hd : decode bytes pc = .ok (.ifnull o, 3)) (hr : J pc' Ls S G k sl) (hp : pc + 3 = pc' := by rfl) : J pc Ls (.ref a :: S) G k sl := by
  obtain ⟨p, e, s, m, args, below, meth, c, rfl, hx, hby, hml, hret, hlk, hnm, hZ, hown, hw, hS⟩ := W
  subst hp
  intro T locs X hG hF
  obtain ⟨t, o, st, h⟩ := hr T locs X hG hF
  exact ⟨t, o, XS.ifnullNo X.here hx rfl (Jvm.hb hby hd) rfl st, h⟩
theorem Walk.ifnonnull_t (W : Walk tab sig l Z a0 n0 own nm bytes maxL ret R Q J) {a : Addr} {o : Int} (hd : decode bytes pc = .ok (.ifnonnull o, 3)) (hr : J pc' Ls S G k sl) (ho : 0 ≤ (pc : Int) + o := by decide) (hp : ((pc : Int) + o).toNat = pc' := by decide) : J pc Ls (.ref a :: S) G k sl := by
  obtain ⟨p, e, s, m, args, below, meth, c, rfl, hx, hby, hml, hret, hlk, hnm, hZ, hown, hw, hS⟩ := W
  intro T locs X hG hF
  obtain ⟨t, o, st, h⟩ := hr T locs X hG hF
  exact ⟨t, o, XT.ifnonnullYes X.here hx rfl rfl (Jvm.hb hby hd) rfl ho hp st, h⟩
theorem Walk.ifnonnull_f (W : Walk tab sig l Z a0 n0 own nm bytes maxL ret R Q J)  {o : Int} (hd : decode bytes pc = .ok (.ifnonnull o, 3)) (hr : J pc' Ls S G k sl) (hp : pc + 3 = pc' := by rfl) : J pc Ls (.null :: S) G k sl := by
  obtain ⟨p, e, s, m, args, below, meth, c, rfl, hx, hby, hml, hret, hlk, hnm, hZ, hown, hw, hS⟩ := W
  subst hp
  intro T locs X hG hF
  obtain ⟨t, o, st, h⟩ := hr T locs X hG hF
  exact ⟨t, o, XT.ifnonnullNo X.here hx rfl (Jvm.hb hby hd) rfl st, h⟩
theorem Walk.acmp_eq_t (W : Walk tab sig l Z a0 n0 own nm bytes maxL ret R Q J) {x y : Value} {o : Int} (hd : decode bytes pc = .ok (.if_acmp .eq o, 3)) (h1 : x.isRef = true) (h2 : y.isRef = true) (q : x = y) (hr : J pc' Ls S G k sl) (ho : 0 ≤ (pc : Int) + o := by decide) (hp : ((pc : Int) + o).toNat = pc' := by decide) : J pc Ls (y :: x :: S) G k sl := by
  obtain ⟨p, e, s, m, args, below, meth, c, rfl, hx, hby, hml, hret, hlk, hnm, hZ, hown, hw, hS⟩ := W
  intro T locs X hG hF
  obtain ⟨t, o, st, h⟩ := hr T locs X hG hF
  exact ⟨t, o, XT.acmpYes X.here hx rfl rfl (Jvm.hb hby hd) rfl h1 h2 (XT.aa_eq_t q) ho hp st, h⟩
theorem Walk.acmp_eq_f (W : Walk tab sig l Z a0 n0 own nm bytes maxL ret R Q J) {x y : Value} {o : Int} (hd : decode bytes pc = .ok (.if_acmp .eq o, 3)) (h1 : x.isRef = true) (h2 : y.isRef = true) (q : ¬ x = y) (hr : J pc' Ls S G k sl) (hp : pc + 3 = pc' := by rfl) : J pc Ls (y :: x :: S) G k sl := by
  obtain ⟨p, e, s, m, args, below, meth, c, rfl, hx, hby, hml, hret, hlk, hnm, hZ, hown, hw, hS⟩ := W
  subst hp
  intro T locs X hG hF
  obtain ⟨t, o, st, h⟩ := hr T locs X hG hF
  exact ⟨t, o, XT.acmpNo X.here hx rfl (Jvm.hb hby hd) rfl h1 h2 (XT.aa_eq_f q) st, h⟩
theorem Walk.acmp_ne_t (W : Walk tab sig l Z a0 n0 own nm bytes maxL ret R Q J) {x y : Value} {o : Int} (hd : decode bytes pc = .ok (.if_acmp .ne o, 3)) (h1 : x.isRef = true) (h2 : y.isRef = true) (q : ¬ x = y) (hr : J pc' Ls S G k sl) (ho : 0 ≤ (pc : Int) + o := by decide) (hp : ((pc : Int) + o).toNat = pc' := by decide) : J pc Ls (y :: x :: S) G k sl := by
  obtain ⟨p, e, s, m, args, below, meth, c, rfl, hx, hby, hml, hret, hlk, hnm, hZ, hown, hw, hS⟩ := W
  intro T locs X hG hF
  obtain ⟨t, o, st, h⟩ := hr T locs X hG hF
  exact ⟨t, o, XT.acmpYes X.here hx rfl rfl (Jvm.hb hby hd) rfl h1 h2 (XT.aa_ne_t q) ho hp st, h⟩
theorem Walk.acmp_ne_f (W : Walk tab sig l Z a0 n0 own nm bytes maxL ret R Q J) {x y : Value} {o : Int} (hd : decode bytes pc = .ok (.if_acmp .ne o, 3)) (h1 : x.isRef = true) (h2 : y.isRef = true) (q : x = y) (hr : J pc' Ls S G k sl) (hp : pc + 3 = pc' := by rfl) : J pc Ls (y :: x :: S) G k sl := by
  obtain ⟨p, e, s, m, args, below, meth, c, rfl, hx, hby, hml, hret, hlk, hnm, hZ, hown, hw, hS⟩ := W
  subst hp
  intro T locs X hG hF
  obtain ⟨t, o, st, h⟩ := hr T locs X hG hF
  exact ⟨t, o, XT.acmpNo X.here hx rfl (Jvm.hb hby hd) rfl h1 h2 (XT.aa_ne_f q) st, h⟩
theorem Walk.dia_if_eq (W : Walk tab sig l Z a0 n0 own nm bytes maxL ret R Q J) {x : Int32} {o i1 o2 i3 : Int} {pc2 pe : Nat} (va vb : Int32) (hd : decode bytes pc = .ok (.ifCond .eq o, 3)) (h1 : decode bytes pc2 = .ok (.iconst i1, 1)) (h2 : decode bytes (pc2 + 1) = .ok (.goto o2, 3)) (h3 : decode bytes pc' = .ok (.iconst i3, 1)) (e1 : Int32.ofInt i1 = va) (e3 : Int32.ofInt i3 = vb)
    (hr : J pe Ls (.int (if (x = 0) then vb else va) :: S) G k sl) (ho : 0 ≤ (pc : Int) + o := by decide) (hp : ((pc : Int) + o).toNat = pc' := by decide) (hp2 : pc + 3 = pc2 := by rfl) (ho2 : 0 ≤ ((pc2 + 1 : Nat) : Int) + o2 := by decide) (hp3 : (((pc2 + 1 : Nat) : Int) + o2).toNat = pe := by decide) (hp4 : pc' + 1 = pe := by rfl) : J pc Ls (.int x :: S) G k sl := by
  refine W.if_eq (pc' := pc') (pc2 := pc2) hd (fun q => ?_) (fun q => ?_) ho hp hp2
  · rw [if_pos q] at hr
    exact W.iconst vb h3 e3 hr hp4
  · rw [if_neg q] at hr
    exact W.iconst va h1 e1 (W.goto h2 hr ho2 hp3) rfl
theorem Walk.dia_icmp_eq (W : Walk tab sig l Z a0 n0 own nm bytes maxL ret R Q J) {x y : Int32} {o i1 o2 i3 : Int} {pc2 pe : Nat} (va vb : Int32) (hd : decode bytes pc = .ok (.if_icmp .eq o, 3)) (h1 : decode bytes pc2 = .ok (.iconst i1, 1)) (h2 : decode bytes (pc2 + 1) = .ok (.goto o2, 3)) (h3 : decode bytes pc' = .ok (.iconst i3, 1)) (e1 : Int32.ofInt i1 = va) (e3 : Int32.ofInt i3 = vb)
    (hr : J pe Ls (.int (if (x = y) then vb else va) :: S) G k sl) (ho : 0 ≤ (pc : Int) + o := by decide) (hp : ((pc : Int) + o).toNat = pc' := by decide) (hp2 : pc + 3 = pc2 := by rfl) (ho2 : 0 ≤ ((pc2 + 1 : Nat) : Int) + o2 := by decide) (hp3 : (((pc2 + 1 : Nat) : Int) + o2).toNat = pe := by decide) (hp4 : pc' + 1 = pe := by rfl) : J pc Ls (.int y :: .int x :: S) G k sl := by
  refine W.icmp_eq (pc' := pc') (pc2 := pc2) hd (fun q => ?_) (fun q => ?_) ho hp hp2
  · rw [if_pos q] at hr
    exact W.iconst vb h3 e3 hr hp4
  · rw [if_neg q] at hr
    exact W.iconst va h1 e1 (W.goto h2 hr ho2 hp3) rfl
theorem Walk.dia_ifl_eq (W : Walk tab sig l Z a0 n0 own nm bytes maxL ret R Q J) {x y : Int64} {o i1 o2 i3 : Int} {pc2 pe : Nat} (va vb : Int32) (hd : decode bytes pc = .ok (.ifCond .eq o, 3)) (h1 : decode bytes pc2 = .ok (.iconst i1, 1)) (h2 : decode bytes (pc2 + 1) = .ok (.goto o2, 3)) (h3 : decode bytes pc' = .ok (.iconst i3, 1)) (e1 : Int32.ofInt i1 = va) (e3 : Int32.ofInt i3 = vb)
    (hr : J pe Ls (.int (if (x = y) then vb else va) :: S) G k sl) (ho : 0 ≤ (pc : Int) + o := by decide) (hp : ((pc : Int) + o).toNat = pc' := by decide) (hp2 : pc + 3 = pc2 := by rfl) (ho2 : 0 ≤ ((pc2 + 1 : Nat) : Int) + o2 := by decide) (hp3 : (((pc2 + 1 : Nat) : Int) + o2).toNat = pe := by decide) (hp4 : pc' + 1 = pe := by rfl) : J pc Ls (.int (XT.cmpL x y) :: S) G k sl := by
  refine W.ifl_eq (pc' := pc') (pc2 := pc2) hd (fun q => ?_) (fun q => ?_) ho hp hp2
  · rw [if_pos q] at hr
    exact W.iconst vb h3 e3 hr hp4
  · rw [if_neg q] at hr
    exact W.iconst va h1 e1 (W.goto h2 hr ho2 hp3) rfl
theorem Walk.dia_if_ne (W : Walk tab sig l Z a0 n0 own nm bytes maxL ret R Q J) {x : Int32} {o i1 o2 i3 : Int} {pc2 pe : Nat} (va vb : Int32) (hd : decode bytes pc = .ok (.ifCond .ne o, 3)) (h1 : decode bytes pc2 = .ok (.iconst i1, 1)) (h2 : decode bytes (pc2 + 1) = .ok (.goto o2, 3)) (h3 : decode bytes pc' = .ok (.iconst i3, 1)) (e1 : Int32.ofInt i1 = va) (e3 : Int32.ofInt i3 = vb)
    (hr : J pe Ls (.int (if (x = 0) then va else vb) :: S) G k sl) (ho : 0 ≤ (pc : Int) + o := by decide) (hp : ((pc : Int) + o).toNat = pc' := by decide) (hp2 : pc + 3 = pc2 := by rfl) (ho2 : 0 ≤ ((pc2 + 1 : Nat) : Int) + o2 := by decide) (hp3 : (((pc2 + 1 : Nat) : Int) + o2).toNat = pe := by decide) (hp4 : pc' + 1 = pe := by rfl) : J pc Ls (.int x :: S) G k sl := by
  refine W.if_ne (pc' := pc') (pc2 := pc2) hd (fun q => ?_) (fun q => ?_) ho hp hp2
  · rw [if_pos q] at hr
    exact W.iconst va h1 e1 (W.goto h2 hr ho2 hp3) rfl
  · rw [if_neg q] at hr
    exact W.iconst vb h3 e3 hr hp4
theorem Walk.dia_icmp_ne (W : Walk tab sig l Z a0 n0 own nm bytes maxL ret R Q J) {x y : Int32} {o i1 o2 i3 : Int} {pc2 pe : Nat} (va vb : Int32) (hd : decode bytes pc = .ok (.if_icmp .ne o, 3)) (h1 : decode bytes pc2 = .ok (.iconst i1, 1)) (h2 : decode bytes (pc2 + 1) = .ok (.goto o2, 3)) (h3 : decode bytes pc' = .ok (.iconst i3, 1)) (e1 : Int32.ofInt i1 = va) (e3 : Int32.ofInt i3 = vb)
    (hr : J pe Ls (.int (if (x = y) then va else vb) :: S) G k sl) (ho : 0 ≤ (pc : Int) + o := by decide) (hp : ((pc : Int) + o).toNat = pc' := by decide) (hp2 : pc + 3 = pc2 := by rfl) (ho2 : 0 ≤ ((pc2 + 1 : Nat) : Int) + o2 := by decide) (hp3 : (((pc2 + 1 : Nat) : Int) + o2).toNat = pe := by decide) (hp4 : pc' + 1 = pe := by rfl) : J pc Ls (.int y :: .int x :: S) G k sl := by
  refine W.icmp_ne (pc' := pc') (pc2 := pc2) hd (fun q => ?_) (fun q => ?_) ho hp hp2
  · rw [if_pos q] at hr
    exact W.iconst va h1 e1 (W.goto h2 hr ho2 hp3) rfl
  · rw [if_neg q] at hr
    exact W.iconst vb h3 e3 hr hp4
theorem Walk.dia_ifl_ne (W : Walk tab sig l Z a0 n0 own nm bytes maxL ret R Q J) {x y : Int64} {o i1 o2 i3 : Int} {pc2 pe : Nat} (va vb : Int32) (hd : decode bytes pc = .ok (.ifCond .ne o, 3)) (h1 : decode bytes pc2 = .ok (.iconst i1, 1)) (h2 : decode bytes (pc2 + 1) = .ok (.goto o2, 3)) (h3 : decode bytes pc' = .ok (.iconst i3, 1)) (e1 : Int32.ofInt i1 = va) (e3 : Int32.ofInt i3 = vb)
    (hr : J pe Ls (.int (if (x = y) then va else vb) :: S) G k sl) (ho : 0 ≤ (pc : Int) + o := by decide) (hp : ((pc : Int) + o).toNat = pc' := by decide) (hp2 : pc + 3 = pc2 := by rfl) (ho2 : 0 ≤ ((pc2 + 1 : Nat) : Int) + o2 := by decide) (hp3 : (((pc2 + 1 : Nat) : Int) + o2).toNat = pe := by decide) (hp4 : pc' + 1 = pe := by rfl) : J pc Ls (.int (XT.cmpL x y) :: S) G k sl := by
  refine W.ifl_ne (pc' := pc') (pc2 := pc2) hd (fun q => ?_) (fun q => ?_) ho hp hp2
  · rw [if_pos q] at hr
    exact W.iconst va h1 e1 (W.goto h2 hr ho2 hp3) rfl
  · rw [if_neg q] at hr
    exact W.iconst vb h3 e3 hr hp4
theorem Walk.dia_if_lt (W : Walk tab sig l Z a0 n0 own nm bytes maxL ret R Q J) {x : Int32} {o i1 o2 i3 : Int} {pc2 pe : Nat} (va vb : Int32) (hd : decode bytes pc = .ok (.ifCond .lt o, 3)) (h1 : decode bytes pc2 = .ok (.iconst i1, 1)) (h2 : decode bytes (pc2 + 1) = .ok (.goto o2, 3)) (h3 : decode bytes pc' = .ok (.iconst i3, 1)) (e1 : Int32.ofInt i1 = va) (e3 : Int32.ofInt i3 = vb)
    (hr : J pe Ls (.int (if (x < 0) then vb else va) :: S) G k sl) (ho : 0 ≤ (pc : Int) + o := by decide) (hp : ((pc : Int) + o).toNat = pc' := by decide) (hp2 : pc + 3 = pc2 := by rfl) (ho2 : 0 ≤ ((pc2 + 1 : Nat) : Int) + o2 := by decide) (hp3 : (((pc2 + 1 : Nat) : Int) + o2).toNat = pe := by decide) (hp4 : pc' + 1 = pe := by rfl) : J pc Ls (.int x :: S) G k sl := by
  refine W.if_lt (pc' := pc') (pc2 := pc2) hd (fun q => ?_) (fun q => ?_) ho hp hp2
  · rw [if_pos q] at hr
    exact W.iconst vb h3 e3 hr hp4
  · rw [if_neg q] at hr
    exact W.iconst va h1 e1 (W.goto h2 hr ho2 hp3) rfl
theorem Walk.dia_icmp_lt (W : Walk tab sig l Z a0 n0 own nm bytes maxL ret R Q J) {x y : Int32} {o i1 o2 i3 : Int} {pc2 pe : Nat} (va vb : Int32) (hd : decode bytes pc = .ok (.if_icmp .lt o, 3)) (h1 : decode bytes pc2 = .ok (.iconst i1, 1)) (h2 : decode bytes (pc2 + 1) = .ok (.goto o2, 3)) (h3 : decode bytes pc' = .ok (.iconst i3, 1)) (e1 : Int32.ofInt i1 = va) (e3 : Int32.ofInt i3 = vb)
    (hr : J pe Ls (.int (if (x < y) then vb else va) :: S) G k sl) (ho : 0 ≤ (pc : Int) + o := by decide) (hp : ((pc : Int) + o).toNat = pc' := by decide) (hp2 : pc + 3 = pc2 := by rfl) (ho2 : 0 ≤ ((pc2 + 1 : Nat) : Int) + o2 := by decide) (hp3 : (((pc2 + 1 : Nat) : Int) + o2).toNat = pe := by decide) (hp4 : pc' + 1 = pe := by rfl) : J pc Ls (.int y :: .int x :: S) G k sl := by
  refine W.icmp_lt (pc' := pc') (pc2 := pc2) hd (fun q => ?_) (fun q => ?_) ho hp hp2
  · rw [if_pos q] at hr
    exact W.iconst vb h3 e3 hr hp4
  · rw [if_neg q] at hr
    exact W.iconst va h1 e1 (W.goto h2 hr ho2 hp3) rfl
theorem Walk.dia_ifl_lt (W : Walk tab sig l Z a0 n0 own nm bytes maxL ret R Q J) {x y : Int64} {o i1 o2 i3 : Int} {pc2 pe : Nat} (va vb : Int32) (hd : decode bytes pc = .ok (.ifCond .lt o, 3)) (h1 : decode bytes pc2 = .ok (.iconst i1, 1)) (h2 : decode bytes (pc2 + 1) = .ok (.goto o2, 3)) (h3 : decode bytes pc' = .ok (.iconst i3, 1)) (e1 : Int32.ofInt i1 = va) (e3 : Int32.ofInt i3 = vb)
    (hr : J pe Ls (.int (if (x < y) then vb else va) :: S) G k sl) (ho : 0 ≤ (pc : Int) + o := by decide) (hp : ((pc : Int) + o).toNat = pc' := by decide) (hp2 : pc + 3 = pc2 := by rfl) (ho2 : 0 ≤ ((pc2 + 1 : Nat) : Int) + o2 := by decide) (hp3 : (((pc2 + 1 : Nat) : Int) + o2).toNat = pe := by decide) (hp4 : pc' + 1 = pe := by rfl) : J pc Ls (.int (XT.cmpL x y) :: S) G k sl := by
  refine W.ifl_lt (pc' := pc') (pc2 := pc2) hd (fun q => ?_) (fun q => ?_) ho hp hp2
  · rw [if_pos q] at hr
    exact W.iconst vb h3 e3 hr hp4
  · rw [if_neg q] at hr
    exact W.iconst va h1 e1 (W.goto h2 hr ho2 hp3) rfl
theorem Walk.dia_if_ge (W : Walk tab sig l Z a0 n0 own nm bytes maxL ret R Q J) {x : Int32} {o i1 o2 i3 : Int} {pc2 pe : Nat} (va vb : Int32) (hd : decode bytes pc = .ok (.ifCond .ge o, 3)) (h1 : decode bytes pc2 = .ok (.iconst i1, 1)) (h2 : decode bytes (pc2 + 1) = .ok (.goto o2, 3)) (h3 : decode bytes pc' = .ok (.iconst i3, 1)) (e1 : Int32.ofInt i1 = va) (e3 : Int32.ofInt i3 = vb)
    (hr : J pe Ls (.int (if (x < 0) then va else vb) :: S) G k sl) (ho : 0 ≤ (pc : Int) + o := by decide) (hp : ((pc : Int) + o).toNat = pc' := by decide) (hp2 : pc + 3 = pc2 := by rfl) (ho2 : 0 ≤ ((pc2 + 1 : Nat) : Int) + o2 := by decide) (hp3 : (((pc2 + 1 : Nat) : Int) + o2).toNat = pe := by decide) (hp4 : pc' + 1 = pe := by rfl) : J pc Ls (.int x :: S) G k sl := by
  refine W.if_ge (pc' := pc') (pc2 := pc2) hd (fun q => ?_) (fun q => ?_) ho hp hp2
  · rw [if_pos q] at hr
    exact W.iconst va h1 e1 (W.goto h2 hr ho2 hp3) rfl
  · rw [if_neg q] at hr
    exact W.iconst vb h3 e3 hr hp4
theorem Walk.dia_icmp_ge (W : Walk tab sig l Z a0 n0 own nm bytes maxL ret R Q J) {x y : Int32} {o i1 o2 i3 : Int} {pc2 pe : Nat} (va vb : Int32) (hd : decode bytes pc = .ok (.if_icmp .ge o, 3)) (h1 : decode bytes pc2 = .ok (.iconst i1, 1)) (h2 : decode bytes (pc2 + 1) = .ok (.goto o2, 3)) (h3 : decode bytes pc' = .ok (.iconst i3, 1)) (e1 : Int32.ofInt i1 = va) (e3 : Int32.ofInt i3 = vb)
    (hr : J pe Ls (.int (if (x < y) then va else vb) :: S) G k sl) (ho : 0 ≤ (pc : Int) + o := by decide) (hp : ((pc : Int) + o).toNat = pc' := by decide) (hp2 : pc + 3 = pc2 := by rfl) (ho2 : 0 ≤ ((pc2 + 1 : Nat) : Int) + o2 := by decide) (hp3 : (((pc2 + 1 : Nat) : Int) + o2).toNat = pe := by decide) (hp4 : pc' + 1 = pe := by rfl) : J pc Ls (.int y :: .int x :: S) G k sl := by
  refine W.icmp_ge (pc' := pc') (pc2 := pc2) hd (fun q => ?_) (fun q => ?_) ho hp hp2
  · rw [if_pos q] at hr
    exact W.iconst va h1 e1 (W.goto h2 hr ho2 hp3) rfl
  · rw [if_neg q] at hr
    exact W.iconst vb h3 e3 hr hp4
theorem Walk.dia_ifl_ge (W : Walk tab sig l Z a0 n0 own nm bytes maxL ret R Q J) {x y : Int64} {o i1 o2 i3 : Int} {pc2 pe : Nat} (va vb : Int32) (hd : decode bytes pc = .ok (.ifCond .ge o, 3)) (h1 : decode bytes pc2 = .ok (.iconst i1, 1)) (h2 : decode bytes (pc2 + 1) = .ok (.goto o2, 3)) (h3 : decode bytes pc' = .ok (.iconst i3, 1)) (e1 : Int32.ofInt i1 = va) (e3 : Int32.ofInt i3 = vb)
    (hr : J pe Ls (.int (if (x < y) then va else vb) :: S) G k sl) (ho : 0 ≤ (pc : Int) + o := by decide) (hp : ((pc : Int) + o).toNat = pc' := by decide) (hp2 : pc + 3 = pc2 := by rfl) (ho2 : 0 ≤ ((pc2 + 1 : Nat) : Int) + o2 := by decide) (hp3 : (((pc2 + 1 : Nat) : Int) + o2).toNat = pe := by decide) (hp4 : pc' + 1 = pe := by rfl) : J pc Ls (.int (XT.cmpL x y) :: S) G k sl := by
  refine W.ifl_ge (pc' := pc') (pc2 := pc2) hd (fun q => ?_) (fun q => ?_) ho hp hp2
  · rw [if_pos q] at hr
    exact W.iconst va h1 e1 (W.goto h2 hr ho2 hp3) rfl
  · rw [if_neg q] at hr
    exact W.iconst vb h3 e3 hr hp4
theorem Walk.dia_if_gt (W : Walk tab sig l Z a0 n0 own nm bytes maxL ret R Q J) {x : Int32} {o i1 o2 i3 : Int} {pc2 pe : Nat} (va vb : Int32) (hd : decode bytes pc = .ok (.ifCond .gt o, 3)) (h1 : decode bytes pc2 = .ok (.iconst i1, 1)) (h2 : decode bytes (pc2 + 1) = .ok (.goto o2, 3)) (h3 : decode bytes pc' = .ok (.iconst i3, 1)) (e1 : Int32.ofInt i1 = va) (e3 : Int32.ofInt i3 = vb)
    (hr : J pe Ls (.int (if (0 < x) then vb else va) :: S) G k sl) (ho : 0 ≤ (pc : Int) + o := by decide) (hp : ((pc : Int) + o).toNat = pc' := by decide) (hp2 : pc + 3 = pc2 := by rfl) (ho2 : 0 ≤ ((pc2 + 1 : Nat) : Int) + o2 := by decide) (hp3 : (((pc2 + 1 : Nat) : Int) + o2).toNat = pe := by decide) (hp4 : pc' + 1 = pe := by rfl) : J pc Ls (.int x :: S) G k sl := by
  refine W.if_gt (pc' := pc') (pc2 := pc2) hd (fun q => ?_) (fun q => ?_) ho hp hp2
  · rw [if_pos q] at hr
    exact W.iconst vb h3 e3 hr hp4
  · rw [if_neg q] at hr
    exact W.iconst va h1 e1 (W.goto h2 hr ho2 hp3) rfl
theorem Walk.dia_icmp_gt (W : Walk tab sig l Z a0 n0 own nm bytes maxL ret R Q J) {x y : Int32} {o i1 o2 i3 : Int} {pc2 pe : Nat} (va vb : Int32) (hd : decode bytes pc = .ok (.if_icmp .gt o, 3)) (h1 : decode bytes pc2 = .ok (.iconst i1, 1)) (h2 : decode bytes (pc2 + 1) = .ok (.goto o2, 3)) (h3 : decode bytes pc' = .ok (.iconst i3, 1)) (e1 : Int32.ofInt i1 = va) (e3 : Int32.ofInt i3 = vb)
    (hr : J pe Ls (.int (if (y < x) then vb else va) :: S) G k sl) (ho : 0 ≤ (pc : Int) + o := by decide) (hp : ((pc : Int) + o).toNat = pc' := by decide) (hp2 : pc + 3 = pc2 := by rfl) (ho2 : 0 ≤ ((pc2 + 1 : Nat) : Int) + o2 := by decide) (hp3 : (((pc2 + 1 : Nat) : Int) + o2).toNat = pe := by decide) (hp4 : pc' + 1 = pe := by rfl) : J pc Ls (.int y :: .int x :: S) G k sl := by
  refine W.icmp_gt (pc' := pc') (pc2 := pc2) hd (fun q => ?_) (fun q => ?_) ho hp hp2
  · rw [if_pos q] at hr
    exact W.iconst vb h3 e3 hr hp4
  · rw [if_neg q] at hr
    exact W.iconst va h1 e1 (W.goto h2 hr ho2 hp3) rfl
theorem Walk.dia_ifl_gt (W : Walk tab sig l Z a0 n0 own nm bytes maxL ret R Q J) {x y : Int64} {o i1 o2 i3 : Int} {pc2 pe : Nat} (va vb : Int32) (hd : decode bytes pc = .ok (.ifCond .gt o, 3)) (h1 : decode bytes pc2 = .ok (.iconst i1, 1)) (h2 : decode bytes (pc2 + 1) = .ok (.goto o2, 3)) (h3 : decode bytes pc' = .ok (.iconst i3, 1)) (e1 : Int32.ofInt i1 = va) (e3 : Int32.ofInt i3 = vb)
    (hr : J pe Ls (.int (if (y < x) then vb else va) :: S) G k sl) (ho : 0 ≤ (pc : Int) + o := by decide) (hp : ((pc : Int) + o).toNat = pc' := by decide) (hp2 : pc + 3 = pc2 := by rfl) (ho2 : 0 ≤ ((pc2 + 1 : Nat) : Int) + o2 := by decide) (hp3 : (((pc2 + 1 : Nat) : Int) + o2).toNat = pe := by decide) (hp4 : pc' + 1 = pe := by rfl) : J pc Ls (.int (XT.cmpL x y) :: S) G k sl := by
  refine W.ifl_gt (pc' := pc') (pc2 := pc2) hd (fun q => ?_) (fun q => ?_) ho hp hp2
  · rw [if_pos q] at hr
    exact W.iconst vb h3 e3 hr hp4
  · rw [if_neg q] at hr
    exact W.iconst va h1 e1 (W.goto h2 hr ho2 hp3) rfl
theorem Walk.dia_if_le (W : Walk tab sig l Z a0 n0 own nm bytes maxL ret R Q J) {x : Int32} {o i1 o2 i3 : Int} {pc2 pe : Nat} (va vb : Int32) (hd : decode bytes pc = .ok (.ifCond .le o, 3)) (h1 : decode bytes pc2 = .ok (.iconst i1, 1)) (h2 : decode bytes (pc2 + 1) = .ok (.goto o2, 3)) (h3 : decode bytes pc' = .ok (.iconst i3, 1)) (e1 : Int32.ofInt i1 = va) (e3 : Int32.ofInt i3 = vb)
    (hr : J pe Ls (.int (if (0 < x) then va else vb) :: S) G k sl) (ho : 0 ≤ (pc : Int) + o := by decide) (hp : ((pc : Int) + o).toNat = pc' := by decide) (hp2 : pc + 3 = pc2 := by rfl) (ho2 : 0 ≤ ((pc2 + 1 : Nat) : Int) + o2 := by decide) (hp3 : (((pc2 + 1 : Nat) : Int) + o2).toNat = pe := by decide) (hp4 : pc' + 1 = pe := by rfl) : J pc Ls (.int x :: S) G k sl := by
  refine W.if_le (pc' := pc') (pc2 := pc2) hd (fun q => ?_) (fun q => ?_) ho hp hp2
  · rw [if_pos q] at hr
    exact W.iconst va h1 e1 (W.goto h2 hr ho2 hp3) rfl
  · rw [if_neg q] at hr
    exact W.iconst vb h3 e3 hr hp4
theorem Walk.dia_icmp_le (W : Walk tab sig l Z a0 n0 own nm bytes maxL ret R Q J) {x y : Int32} {o i1 o2 i3 : Int} {pc2 pe : Nat} (va vb : Int32) (hd : decode bytes pc = .ok (.if_icmp .le o, 3)) (h1 : decode bytes pc2 = .ok (.iconst i1, 1)) (h2 : decode bytes (pc2 + 1) = .ok (.goto o2, 3)) (h3 : decode bytes pc' = .ok (.iconst i3, 1)) (e1 : Int32.ofInt i1 = va) (e3 : Int32.ofInt i3 = vb)
    (hr : J pe Ls (.int (if (y < x) then va else vb) :: S) G k sl) (ho : 0 ≤ (pc : Int) + o := by decide) (hp : ((pc : Int) + o).toNat = pc' := by decide) (hp2 : pc + 3 = pc2 := by rfl) (ho2 : 0 ≤ ((pc2 + 1 : Nat) : Int) + o2 := by decide) (hp3 : (((pc2 + 1 : Nat) : Int) + o2).toNat = pe := by decide) (hp4 : pc' + 1 = pe := by rfl) : J pc Ls (.int y :: .int x :: S) G k sl := by
  refine W.icmp_le (pc' := pc') (pc2 := pc2) hd (fun q => ?_) (fun q => ?_) ho hp hp2
  · rw [if_pos q] at hr
    exact W.iconst va h1 e1 (W.goto h2 hr ho2 hp3) rfl
  · rw [if_neg q] at hr
    exact W.iconst vb h3 e3 hr hp4
theorem Walk.dia_ifl_le (W : Walk tab sig l Z a0 n0 own nm bytes maxL ret R Q J) {x y : Int64} {o i1 o2 i3 : Int} {pc2 pe : Nat} (va vb : Int32) (hd : decode bytes pc = .ok (.ifCond .le o, 3)) (h1 : decode bytes pc2 = .ok (.iconst i1, 1)) (h2 : decode bytes (pc2 + 1) = .ok (.goto o2, 3)) (h3 : decode bytes pc' = .ok (.iconst i3, 1)) (e1 : Int32.ofInt i1 = va) (e3 : Int32.ofInt i3 = vb)
    (hr : J pe Ls (.int (if (y < x) then va else vb) :: S) G k sl) (ho : 0 ≤ (pc : Int) + o := by decide) (hp : ((pc : Int) + o).toNat = pc' := by decide) (hp2 : pc + 3 = pc2 := by rfl) (ho2 : 0 ≤ ((pc2 + 1 : Nat) : Int) + o2 := by decide) (hp3 : (((pc2 + 1 : Nat) : Int) + o2).toNat = pe := by decide) (hp4 : pc' + 1 = pe := by rfl) : J pc Ls (.int (XT.cmpL x y) :: S) G k sl := by
  refine W.ifl_le (pc' := pc') (pc2 := pc2) hd (fun q => ?_) (fun q => ?_) ho hp hp2
  · rw [if_pos q] at hr
    exact W.iconst va h1 e1 (W.goto h2 hr ho2 hp3) rfl
  · rw [if_neg q] at hr
    exact W.iconst vb h3 e3 hr hp4
end Steps
/-! ## the ghost heap over a step that writes or makes -/
section Heap
variable {tab : List Jvm.Cond} {sig : Sig} {l : Launch} {Z : State} {a0 : Array Value} {n0 : Nat} {own nm : String} {bytes : ByteArray} {maxL : Nat} {ret : Option FieldType} {R : Room} {Q : Post} {J : JT} {pc pc' : Nat} {Ls : List Slot} {S : List Value} {G : Ghost} {k sl : Nat} {h h' : Heap} {a b : Addr} {o : Obj} {v w : Value} {j : Nat}
theorem ObjAt.other {sl' : Nat} (W : Wr h h' a sl' v) (hne : b ≠ a) (F : ObjAt sig Z h b o) : ObjAt sig Z h' b o := by
  obtain ⟨t, vs⟩ := o
  cases t with
  | inl ci =>
    obtain ⟨C, n, fs, h1, h2, h3, h4⟩ := F
    exact ⟨C, n, fs, h1, h2.wr W, h3, fun i O nm d ty v hf hv => Fld.other W (h4 i O nm d ty v hf hv) (Or.inl hne)⟩
  | inr ty =>
    obtain ⟨c, h1, h2⟩ := F
    exact ⟨c, h1.other W hne, h2⟩
theorem ObjAt.ext (E : Ext h h') (F : ObjAt sig Z h b o) : ObjAt sig Z h' b o := by
  obtain ⟨t, vs⟩ := o
  cases t with
  | inl ci =>
    obtain ⟨C, n, fs, h1, h2, h3, h4⟩ := F
    exact ⟨C, n, fs, h1, h2.ext E, h3, fun i O nm d ty v hf hv => (h4 i O nm d ty v hf hv).ext E⟩
  | inr ty =>
    obtain ⟨c, h1, h2⟩ := F
    exact ⟨c, h1.ext E, h2⟩
theorem Rep.write {sl' : Nat} {o o' : Obj} (hG : Rep sig Z n0 h G) (W : Wr h h' (n0 + j) sl' v) (hO : G[j]? = some o) (hN : ObjAt sig Z h' (n0 + j) o') : Rep sig Z n0 h' (G.set j o') := by
  obtain ⟨rfl, h2, h3, h4⟩ := hG
  have hj : j < G.length := (List.getElem?_eq_some_iff.mp hO).1
  refine ⟨rfl, ⟨by rw [W.size]; exact h2.1, fun a c hc => ?_⟩, by rw [W.size, h3]; simp, fun k o2 hk => ?_⟩
  · obtain ⟨c', e1, -, -, -, e5, -⟩ := wr_at W (h2.2 a c hc)
    have : a < Z.heap.size := (Array.getElem?_eq_some_iff.mp hc).1
    rw [e1, e5 (Nat.ne_of_lt (Nat.lt_of_lt_of_le this (Nat.le_add_right _ _)))]
  · by_cases q : k = j
    · subst q
      rw [List.getElem?_set_self hj] at hk
      cases hk
      exact hN
    · rw [List.getElem?_set_ne (fun z => q z.symm)] at hk
      exact ObjAt.other W (fun z => q (Nat.add_left_cancel z)) (h4 k o2 hk)
theorem Rep.push {o' : Obj} (hG : Rep sig Z n0 h G) (E : Ext h h') (hs : h'.size = h.size + 1) (hN : ObjAt sig Z h' h.size o') : Rep sig Z n0 h' (G ++ [o']) := by
  obtain ⟨rfl, h2, h3, h4⟩ := hG
  refine ⟨rfl, ⟨Nat.le_trans h2.1 E.1, fun a c hc => E.2 a c (h2.2 a c hc)⟩, by rw [hs, h3]; simp; omega, fun k o2 hk => ?_⟩
  rcases Nat.lt_or_ge k G.length with q | q
  · rw [List.getElem?_append_left q] at hk
    exact (h4 k o2 hk).ext E
  · rw [List.getElem?_append_right q] at hk
    cases hq : k - G.length with
    | zero =>
      rw [hq] at hk
      cases hk
      have e : k = G.length := by omega
      have : Z.heap.size + k = h.size := by rw [h3, e]
      rw [this]
      exact hN
    | succ n => rw [hq] at hk; cases hk
theorem Rep.start (Z : State) : Rep sig Z Z.heap.size Z.heap [] := ⟨rfl, ⟨Nat.le_refl _, fun _ _ h => h⟩, rfl, fun k o h => by cases h⟩
theorem fr_snoc {locs : List Loc} {sl' : Nat} (N : Fr n0 locs) : Fr n0 (locs ++ [⟨n0 + j, sl'⟩]) := N.app fun y hy => by cases List.mem_singleton.mp hy; exact Nat.le_add_right _ _
theorem Walk.getfield (W : Walk tab sig l Z a0 n0 own nm bytes maxL ret R Q J) {idx ci n : Nat} (i : Nat) {C O f d host : String} {ty : FieldType} {fs : List Fd} {vs : List Value} (hd : decode bytes pc = .ok (.getfield idx, 3))
    (hlink : Jvm.Cond.fieldLink own idx O f d ∈ tab ∨ Jvm.Cond.fieldLinkNest own idx O f d host ∈ tab) (hO : G[j]? = some (.inl ci, vs)) (hc : sig[ci]? = some (C, n, fs)) (hf : fs[i]? = some (O, f, d, ty)) (hv : vs[i]? = some v)
    (hr : J pc' Ls (v :: S) G k sl) (hp : pc + 3 = pc' := by rfl) : J pc Ls (.ref (n0 + j) :: S) G k sl := by
  obtain ⟨p, e, s, m, args, below, meth, c, rfl, hx, hby, hml, hret, hlk, hnm, hZ, hown, hw, hS⟩ := W
  subst hp
  intro T locs X hG hF
  obtain ⟨C', n', fs', e1, E, hlen, F⟩ := hG.2.2.2 j _ hO
  cases hc.symm.trans e1
  obtain ⟨T', X', e', st⟩ := getF X hx hZ hown (host := host) (hlink.imp (hw _) (hw _)) Via.refl rfl (F i O f d ty v hf hv) (g := mkF m pc Ls.toArray (.ref (n0 + j) :: S)) rfl rfl (Jvm.hb hby hd)
  obtain ⟨t, o, st2, h⟩ := hr T' locs X' (by rw [e']; exact hG) hF
  exact ⟨t, o, st _ st2, h⟩
/-- 'getfield' by an entry that the run has resolved already -/
theorem Walk.getfieldR (W : Walk tab sig l Z a0 n0 own nm bytes maxL ret R Q J) {idx ci n : Nat} (i : Nat) {C O f d : String} {ty : FieldType} {fs : List Fd} {vs : List Value} (hd : decode bytes pc = .ok (.getfield idx, 3))
    (hlink : Jvm.Cond.fieldRef own idx O f d ∈ tab) (hO : G[j]? = some (.inl ci, vs)) (hc : sig[ci]? = some (C, n, fs)) (hf : fs[i]? = some (O, f, d, ty)) (hv : vs[i]? = some v)
    (hr : J pc' Ls (v :: S) G k sl) (hp : pc + 3 = pc' := by rfl) : J pc Ls (.ref (n0 + j) :: S) G k sl := by
  obtain ⟨p, e, s, m, args, below, meth, c, rfl, hx, hby, hml, hret, hlk, hnm, hZ, hown, hw, hS⟩ := W
  subst hp
  intro T locs X hG hF
  obtain ⟨C', n', fs', e1, E, hlen, F⟩ := hG.2.2.2 j _ hO
  cases hc.symm.trans e1
  obtain ⟨cell, cf, k1, i1, fl, h1, h2, h3, h4, -, -, h7⟩ := F i O f d ty v hf hv
  have hT : Z.Warmed39 T.vm := wtrans hZ X.warmed
  have hcur : (Z.setVm T.vm).vm.findClass own = some m.cls := by
    show T.vm.findClass own = some m.cls
    rw [X.warmed.alike.findClass]; exact hown
  obtain ⟨c2, k2, i2, f2, hf2, hready⟩ := Cond.fieldRef_spec hcur (Cond.fieldRef_warmed39 hT (hw _ hlink))
  obtain ⟨k3, g1, -⟩ := State.fieldFound?_setVm (s := Z) hT.alike h2
  have g2 : (Z.setVm T.vm).fieldFound? O f d = some (cf, k3, i1, fl) := g1
  cases hf2.symm.trans g2
  obtain ⟨t, o, st2, h⟩ := hr T locs X hG hF
  refine ⟨t, o, ?_, h⟩
  have hd' := Jvm.hb hby hd
  jvm_step X.here [hx, hd', getfield.wp_ready (e := e) (s := T) (f := mkF m pc Ls.toArray (.ref (n0 + j) :: S)) X.here.top hready h3 rfl h1 h4 h7]
  exact st2
theorem Walk.putfield (W : Walk tab sig l Z a0 n0 own nm bytes maxL ret R Q J) {idx ci n : Nat} (i : Nat) {C O f d host : String} {ty : FieldType} {fs : List Fd} {vs : List Value} (hd : decode bytes pc = .ok (.putfield idx, 3))
    (hlink : Jvm.Cond.fieldLink own idx O f d ∈ tab ∨ Jvm.Cond.fieldLinkNest own idx O f d host ∈ tab) (hO : G[j]? = some (.inl ci, vs)) (hc : sig[ci]? = some (C, n, fs)) (hf : fs[i]? = some (O, f, d, ty))
    (L : Jvm.Cond.lays C O f d ∈ tab ∨ (Jvm.Cond.laysFinal C O f d ∈ tab ∧ own = O ∧ nm = "<init>")) (hn : narrow ty v = v) (hfit : fits ty v = true)
    (hr : J pc' Ls S (G.set j (.inl ci, vs.set i v)) k sl) (hp : pc + 3 = pc' := by rfl) : J pc Ls (v :: .ref (n0 + j) :: S) G k sl := by
  obtain ⟨p, e, s, m, args, below, meth, c, rfl, hx, hby, hml, hret, hlk, rfl, hZ, hown, hw, hS⟩ := W
  subst hp
  intro T locs X hG hF
  obtain ⟨C', n', fs', e1, E, hlen, F⟩ := hG.2.2.2 j _ hO
  cases hc.symm.trans e1
  obtain ⟨s1, s2, s3⟩ := hS ci C n fs hc
  have hi : i < fs.length := (List.getElem?_eq_some_iff.mp hf).1
  have hv : vs[i]? = some vs[i] := List.getElem?_eq_getElem (by omega)
  have F1 := F i O f d ty _ hf hv
  obtain ⟨T', h', X', e', W', st⟩ := putF X hx hZ hown (host := host) (hlink.imp (hw _) (hw _)) Via.refl rfl F1 E (L.imp (hw _) fun q => ⟨hw _ q.1, q.2⟩) (hw _ s1) (s2 _ (List.mem_of_getElem? hf)).2 hn hfit (g := mkF m pc Ls.toArray (v :: .ref (n0 + j) :: S)) rfl rfl (Jvm.hb hby hd)
  have hN : ObjAt sig Z h' (n0 + j) (.inl ci, vs.set i v) := by
    refine ⟨C, n, fs, hc, E.wr W', by simp [hlen], fun i' O' f' d' ty' v' hf' hv' => ?_⟩
    by_cases q : i' = i
    · subst q
      cases hf.symm.trans hf'
      rw [List.getElem?_set_self (by omega)] at hv'
      cases hv'
      exact F1.same W'
    · rw [List.getElem?_set_ne (fun z => q z.symm)] at hv'
      refine Fld.other W' (F i' O' f' d' ty' v' hf' hv') (Or.inr ?_)
      have m1 := s2 _ (List.mem_of_getElem? hf)
      have m2 := s2 _ (List.mem_of_getElem? hf')
      refine slot_ne (a0 := a0) (C := C) (m2.1.imp (hw _) (hw _)) (m1.1.imp (hw _) (hw _)) (fun z => q ?_) m2.2 m1.2
      have g1 : (fs.map (·.2.1))[i]? = some f := by simp [hf]
      have g2 : (fs.map (·.2.1))[i']? = some f' := by simp [hf']
      have hi' : i' < fs.length := (List.getElem?_eq_some_iff.mp hf').1
      exact (List.getElem?_inj (by simpa using hi') s3).mp (g2.trans (by rw [g1]; exact congrArg some z))
  obtain ⟨t, o, st2, h⟩ := hr T' _ X' (by rw [e']; exact Rep.write hG W' hO hN) (fr_snoc hF)
  exact ⟨t, o, st _ st2, h⟩
theorem ix_in {c : Cell} {vs : List Value} {x : Int32} {i : Nat} (hs : c.slots.toList = vs) (hx : x.toInt = i) (hi : i < vs.length) : ¬ (x < 0 ∨ c.slots.size ≤ x.toNatClampNeg) ∧ x.toNatClampNeg = i := by
  have h1 : x.toNatClampNeg = i := by simp [Int32.toNatClampNeg, hx]
  subst hs
  refine ⟨fun q => ?_, h1⟩
  rcases q with q | q
  · rw [Int32.lt_iff_toInt_lt, hx] at q
    simp at q
    omega
  · rw [h1] at q
    simp at hi
    omega
theorem arr_get {c : Cell} {vs : List Value} {x : Int32} {i : Nat} (hs : c.slots.toList = vs) (h1 : x.toNatClampNeg = i) (hv : vs[i]? = some v) : c.slots[x.toNatClampNeg]? = some v := by
  subst hs; rw [h1]; simpa using hv
/-- what a load of an array's component pushes -/
theorem Walk.iaload (W : Walk tab sig l Z a0 n0 own nm bytes maxL ret R Q J) {x : Int32} (i : Nat) {vs : List Value} (hd : decode bytes pc = .ok (.iaload, 1)) (hO : G[j]? = some (.inr .int, vs)) (hi : x.toInt = i) (hv : vs[i]? = some v)
    (hr : J pc' Ls (v :: S) G k sl) (hp : pc + 1 = pc' := by rfl) : J pc Ls (.int x :: .ref (n0 + j) :: S) G k sl := by
  obtain ⟨p, e, s, m, args, below, meth, c, rfl, hx, hby, hml, hret, hlk, hnm, hZ, hown, hw, hS⟩ := W
  subst hp
  intro T locs X hG hF
  obtain ⟨cl, A, hs, -⟩ := hG.2.2.2 j _ hO
  obtain ⟨q1, q2⟩ := ix_in hs hi (List.getElem?_eq_some_iff.mp hv).1
  obtain ⟨t, o, st, h⟩ := hr T locs X hG hF
  exact ⟨t, o, X.iaload hx A.1 (State.isArrayOf_alike hZ.alike A.2.1) A.2.2 q1 (arr_get hs q2 hv) (g := mkF m pc Ls.toArray (.int x :: .ref (n0 + j) :: S)) rfl rfl (Jvm.hb hby hd) _ st, h⟩
theorem Walk.laload (W : Walk tab sig l Z a0 n0 own nm bytes maxL ret R Q J) {x : Int32} (i : Nat) {vs : List Value} (hd : decode bytes pc = .ok (.laload, 1)) (hO : G[j]? = some (.inr .long, vs)) (hi : x.toInt = i) (hv : vs[i]? = some v)
    (hr : J pc' Ls (v :: S) G k sl) (hp : pc + 1 = pc' := by rfl) : J pc Ls (.int x :: .ref (n0 + j) :: S) G k sl := by
  obtain ⟨p, e, s, m, args, below, meth, c, rfl, hx, hby, hml, hret, hlk, hnm, hZ, hown, hw, hS⟩ := W
  subst hp
  intro T locs X hG hF
  obtain ⟨cl, A, hs, -⟩ := hG.2.2.2 j _ hO
  obtain ⟨q1, q2⟩ := ix_in hs hi (List.getElem?_eq_some_iff.mp hv).1
  obtain ⟨t, o, st, h⟩ := hr T locs X hG hF
  exact ⟨t, o, X.laload hx A.1 (State.isArrayOf_alike hZ.alike A.2.1) A.2.2 q1 (arr_get hs q2 hv) (g := mkF m pc Ls.toArray (.int x :: .ref (n0 + j) :: S)) rfl rfl (Jvm.hb hby hd) _ st, h⟩
theorem Walk.baload (W : Walk tab sig l Z a0 n0 own nm bytes maxL ret R Q J) {x : Int32} (i : Nat) {vs : List Value} (hd : decode bytes pc = .ok (.baload, 1)) (hO : G[j]? = some (.inr .byte, vs)) (hi : x.toInt = i) (hv : vs[i]? = some v)
    (hr : J pc' Ls (v :: S) G k sl) (hp : pc + 1 = pc' := by rfl) : J pc Ls (.int x :: .ref (n0 + j) :: S) G k sl := by
  obtain ⟨p, e, s, m, args, below, meth, c, rfl, hx, hby, hml, hret, hlk, hnm, hZ, hown, hw, hS⟩ := W
  subst hp
  intro T locs X hG hF
  obtain ⟨cl, A, hs, -⟩ := hG.2.2.2 j _ hO
  obtain ⟨q1, q2⟩ := ix_in hs hi (List.getElem?_eq_some_iff.mp hv).1
  obtain ⟨t, o, st, h⟩ := hr T locs X hG hF
  exact ⟨t, o, X.baloadBytes hx A.1 (State.isArrayOf_alike hZ.alike A.2.1) A.2.2 q1 (arr_get hs q2 hv) (g := mkF m pc Ls.toArray (.int x :: .ref (n0 + j) :: S)) rfl rfl (Jvm.hb hby hd) _ st, h⟩
theorem Walk.aaload (W : Walk tab sig l Z a0 n0 own nm bytes maxL ret R Q J) {x : Int32} {ty : FieldType} (i : Nat) {vs : List Value} (hd : decode bytes pc = .ok (.aaload, 1)) (hO : G[j]? = some (.inr ty, vs)) (hty : ty.isReference = true) (hi : x.toInt = i) (hv : vs[i]? = some v)
    (hr : J pc' Ls (v :: S) G k sl) (hp : pc + 1 = pc' := by rfl) : J pc Ls (.int x :: .ref (n0 + j) :: S) G k sl := by
  obtain ⟨p, e, s, m, args, below, meth, c, rfl, hx, hby, hml, hret, hlk, hnm, hZ, hown, hw, hS⟩ := W
  subst hp
  intro T locs X hG hF
  obtain ⟨cl, A, hs, -⟩ := hG.2.2.2 j _ hO
  obtain ⟨q1, q2⟩ := ix_in hs hi (List.getElem?_eq_some_iff.mp hv).1
  obtain ⟨t, o, st, h⟩ := hr T locs X hG hF
  exact ⟨t, o, X.aaload hx A.1 (State.isArrayOf_alike hZ.alike A.2.1) hty A.2.2 q1 (arr_get hs q2 hv) (g := mkF m pc Ls.toArray (.int x :: .ref (n0 + j) :: S)) rfl rfl (Jvm.hb hby hd) _ st, h⟩
theorem Walk.arraylength (W : Walk tab sig l Z a0 n0 own nm bytes maxL ret R Q J) {ty : FieldType} {vs : List Value} (z : Int32) (hd : decode bytes pc = .ok (.arraylength, 1)) (hO : G[j]? = some (.inr ty, vs)) (hz : vs.length.toInt32 = z)
    (hr : J pc' Ls (.int z :: S) G k sl) (hp : pc + 1 = pc' := by rfl) : J pc Ls (.ref (n0 + j) :: S) G k sl := by
  obtain ⟨p, e, s, m, args, below, meth, c, rfl, hx, hby, hml, hret, hlk, hnm, hZ, hown, hw, hS⟩ := W
  subst hp hz
  intro T locs X hG hF
  obtain ⟨cl, A, hs, -⟩ := hG.2.2.2 j _ hO
  obtain ⟨t, o, st, h⟩ := hr T locs X hG hF
  have e : cl.slots.size.toInt32 = vs.length.toInt32 := by rw [← hs]; simp
  exact ⟨t, o, X.arraylength hx A.1 (State.isArrayOf_alike hZ.alike A.2.1) (g := mkF m pc Ls.toArray (.ref (n0 + j) :: S)) rfl rfl (Jvm.hb hby hd) _ (by rw [e]; exact st), h⟩
theorem ObjAt.set {ty : FieldType} {vs : List Value} {x : Int32} {i : Nat} (W : Wr h h' a x.toNatClampNeg v) (F : ObjAt sig Z h a (.inr ty, vs)) (hi : x.toNatClampNeg = i) (hf : fits ty v = true) : ObjAt sig Z h' a (.inr ty, vs.set i v) := by
  obtain ⟨c, A, hs, h1, h2, h3⟩ := F
  subst hi hs
  refine ⟨_, A.same W, by simp [Cell.setSlot], by simpa using h1, fun u hu => ?_, h3⟩
  rcases List.mem_or_eq_of_mem_set hu with q | q
  · exact h2 u q
  · rw [q]; exact hf
theorem Walk.iastore (W : Walk tab sig l Z a0 n0 own nm bytes maxL ret R Q J) {x y : Int32} (i : Nat) {vs : List Value} (hd : decode bytes pc = .ok (.iastore, 1)) (hO : G[j]? = some (.inr .int, vs)) (hi : x.toInt = i) (hl : i < vs.length)
    (hr : J pc' Ls S (G.set j (.inr .int, vs.set i (.int y))) k sl) (hp : pc + 1 = pc' := by rfl) : J pc Ls (.int y :: .int x :: .ref (n0 + j) :: S) G k sl := by
  obtain ⟨p, e, s, m, args, below, meth, c, rfl, hx, hby, hml, hret, hlk, hnm, hZ, hown, hw, hS⟩ := W
  subst hp
  intro T locs X hG hF
  have F := hG.2.2.2 j _ hO
  obtain ⟨cl, A, hs, -⟩ := F
  obtain ⟨q1, q2⟩ := ix_in hs hi hl
  obtain ⟨T', h', X', e', W', st⟩ := stI X hx hZ rfl A q1 (g := mkF m pc Ls.toArray (.int y :: .int x :: .ref (n0 + j) :: S)) rfl rfl (Jvm.hb hby hd)
  obtain ⟨t, o, st2, h⟩ := hr T' _ X' (by rw [e']; exact Rep.write hG W' hO (ObjAt.set W' (hG.2.2.2 j _ hO) q2 rfl)) (fr_snoc hF)
  exact ⟨t, o, st _ st2, h⟩
theorem Walk.lastore (W : Walk tab sig l Z a0 n0 own nm bytes maxL ret R Q J) {x : Int32} {y : Int64} (i : Nat) {vs : List Value} (hd : decode bytes pc = .ok (.lastore, 1)) (hO : G[j]? = some (.inr .long, vs)) (hi : x.toInt = i) (hl : i < vs.length)
    (hr : J pc' Ls S (G.set j (.inr .long, vs.set i (.long y))) k sl) (hp : pc + 1 = pc' := by rfl) : J pc Ls (.long y :: .int x :: .ref (n0 + j) :: S) G k sl := by
  obtain ⟨p, e, s, m, args, below, meth, c, rfl, hx, hby, hml, hret, hlk, hnm, hZ, hown, hw, hS⟩ := W
  subst hp
  intro T locs X hG hF
  have F := hG.2.2.2 j _ hO
  obtain ⟨cl, A, hs, -⟩ := F
  obtain ⟨q1, q2⟩ := ix_in hs hi hl
  obtain ⟨T', h', X', e', W', st⟩ := stJ X hx hZ rfl A q1 (g := mkF m pc Ls.toArray (.long y :: .int x :: .ref (n0 + j) :: S)) rfl rfl (Jvm.hb hby hd)
  obtain ⟨t, o, st2, h⟩ := hr T' _ X' (by rw [e']; exact Rep.write hG W' hO (ObjAt.set W' (hG.2.2.2 j _ hO) q2 rfl)) (fr_snoc hF)
  exact ⟨t, o, st _ st2, h⟩
theorem Walk.bastore (W : Walk tab sig l Z a0 n0 own nm bytes maxL ret R Q J) {x y : Int32} (i : Nat) {vs : List Value} (hd : decode bytes pc = .ok (.bastore, 1)) (hO : G[j]? = some (.inr .byte, vs)) (hi : x.toInt = i) (hl : i < vs.length)
    (hr : J pc' Ls S (G.set j (.inr .byte, vs.set i (.int y.toInt8.toInt32))) k sl) (hp : pc + 1 = pc' := by rfl) : J pc Ls (.int y :: .int x :: .ref (n0 + j) :: S) G k sl := by
  obtain ⟨p, e, s, m, args, below, meth, c, rfl, hx, hby, hml, hret, hlk, hnm, hZ, hown, hw, hS⟩ := W
  subst hp
  intro T locs X hG hF
  have F := hG.2.2.2 j _ hO
  obtain ⟨cl, A, hs, -⟩ := F
  obtain ⟨q1, q2⟩ := ix_in hs hi hl
  obtain ⟨T', h', X', e', W', st⟩ := stB X hx hZ rfl A q1 (g := mkF m pc Ls.toArray (.int y :: .int x :: .ref (n0 + j) :: S)) rfl rfl (Jvm.hb hby hd)
  obtain ⟨t, o, st2, h⟩ := hr T' _ X' (by rw [e']; exact Rep.write hG W' hO (ObjAt.set (v := .int (nar .byte y)) W' (hG.2.2.2 j _ hO) q2 (fits_nar_byte y))) (fr_snoc hF)
  exact ⟨t, o, st _ st2, h⟩
theorem Walk.new (W : Walk tab sig l Z a0 n0 own nm bytes maxL ret R Q J) {idx n : Nat} (ci : Nat) {C : String} {fs : List Fd} {vs : List Value} (hd : decode bytes pc = .ok (.new idx, 3)) (hc : sig[ci]? = some (C, n, fs)) (w1 : Jvm.Cond.classLink own idx C ∈ tab) (w2 : Jvm.Cond.initialized C ∈ tab)
    (hvs : fs.map (fun f => defaultValue f.2.2.2) = vs) (hk : k + 1 ≤ R.cells) (hsl : sl + n ≤ R.slots) (hr : J pc' Ls (.ref (n0 + G.length) :: S) (G ++ [(.inl ci, vs)]) (k + 1) (sl + n)) (hp : pc + 3 = pc' := by rfl) : J pc Ls S G k sl := by
  obtain ⟨p, e, s, m, args, below, meth, c, rfl, hx, hby, hml, hret, hlk, hnm, hZ, hown, hw, hS⟩ := W
  subst hp hvs
  intro T locs X hG hF
  obtain ⟨s1, s2, s3⟩ := hS ci C n fs hc
  have w1' := hw _ w1; have w2' := hw _ w2; have wi := hw _ s1
  obtain ⟨vm', cC, kC, h1, h2, h3, h4, X', st⟩ := X.newCold hx hown (mv hZ w1') (mv hZ wi) (mv hZ w2') (g := mkF m pc Ls.toArray S) rfl (Jvm.hb hby hd) hk hsl
  rw [hZ.alike.findClass] at h1
  obtain ⟨kZ, z1, -⟩ := Vm.findClass_spec h1
  obtain ⟨k', z2, z3⟩ := hZ.alike.2.2 _ _ z1
  cases h2.symm.trans z2
  have ei : kC.instanceTypes = kZ.instanceTypes := by rw [z3]
  have hN : (T.heap.push { cls := cC, slots := kC.instanceTypes.map defaultValue, vm := .none })[T.heap.size]? = some { cls := cC, slots := kC.instanceTypes.map defaultValue, vm := .none } := by simp
  have hE : Ext T.heap (T.heap.push { cls := cC, slots := kC.instanceTypes.map defaultValue, vm := .none }) := ⟨by simp, fun a c h => by rw [Array.getElem?_push_lt (Array.getElem?_eq_some_iff.mp h).1]; exact (Array.getElem?_eq_getElem _).symm.trans h⟩
  have hO : ObjAt sig Z (T.heap.push { cls := cC, slots := kC.instanceTypes.map defaultValue, vm := .none }) T.heap.size (.inl ci, fs.map (fun f => defaultValue f.2.2.2)) := by
    refine ⟨C, n, fs, hc, ⟨_, kZ, hN, h1, z1, rfl, fun _ => by simp [ei]⟩, by simp, fun i O f d ty v hf hv => ?_⟩
    have hv' : v = defaultValue ty := by simp [hf] at hv; exact hv.symm
    subst hv'
    obtain ⟨q1, q2⟩ := s2 _ (List.mem_of_getElem? hf)
    obtain ⟨c1, k1, cf, kf, i, f, a1, a2, a3, a4, a5, a6, -⟩ := Laid.spec (a0 := a0) (q1.imp (hw _) (hw _))
    cases h1.symm.trans a1
    cases z1.symm.trans a2
    exact ⟨_, cf, kf, i, f, hN, a3, a4, by simp, rfl, a5, by simp [ei, a6, (State.fieldFound?_type a3 q2).2]⟩
  have hsz : T.heap.size = n0 + G.length := hG.2.2.1
  have hR := Rep.push hG hE (by simp) hO
  obtain ⟨t, o, st2, h⟩ := hr _ locs X' hR hF
  rw [hsz] at st
  exact ⟨t, o, st _ st2, h⟩
theorem Walk.newarray (W : Walk tab sig l Z a0 n0 own nm bytes maxL ret R Q J) {aty : ArrayType} {x : Int32} (N : Nat) {vs : List Value} (hd : decode bytes pc = .ok (.newarray aty, 2)) (w1 : Jvm.Cond.arrayClass (newarray.typeOf aty) ∈ tab)
    (hN : x.toInt = N) (hvs : List.replicate N (defaultValue (newarray.typeOf aty)) = vs) (hb8 : N * 8 ≤ 536870912) (hk : k + 1 ≤ R.cells) (hsl : sl + N ≤ R.slots)
    (hr : J pc' Ls (.ref (n0 + G.length) :: S) (G ++ [(.inr (newarray.typeOf aty), vs)]) (k + 1) (sl + N)) (hp : pc + 2 = pc' := by rfl) : J pc Ls (.int x :: S) G k sl := by
  obtain ⟨p, e, s, m, args, below, meth, c, rfl, hx, hby, hml, hret, hlk, hnm, hZ, hown, hw, hS⟩ := W
  subst hp hvs
  intro T locs X hG hF
  have hcl : x.toNatClampNeg = N := by simp [Int32.toNatClampNeg, hN]
  have hcb : componentBytes (newarray.typeOf aty) ≤ 8 := by cases aty <;> decide
  obtain ⟨cA, kA, comp, h1, h2, h3, X', st⟩ := X.newarrayPrim hx (mvA hZ (hw _ w1)) (g := mkF m pc Ls.toArray (.int x :: S)) rfl (Jvm.hb hby hd) rfl (by rw [Int32.lt_iff_toInt_lt, hN]; simp <;> omega) (Nat.le_trans (Nat.mul_le_mul (Nat.le_of_eq hcl) hcb) hb8) hk (by rw [hcl]; exact hsl)
  rw [hZ.alike.findClass] at h1
  obtain ⟨kZ, z1, -⟩ := Vm.findClass_spec h1
  obtain ⟨k', z2, z3⟩ := hZ.alike.2.2 _ _ z1
  cases h2.symm.trans z2
  rw [hcl] at X' st
  have hE : Ext T.heap (T.heap.push { cls := cA, slots := Array.replicate N (defaultValue (newarray.typeOf aty)), vm := .none }) := ⟨by simp, fun a c h => by rw [Array.getElem?_push_lt (Array.getElem?_eq_some_iff.mp h).1]; exact (Array.getElem?_eq_getElem _).symm.trans h⟩
  have hO : ObjAt sig Z (T.heap.push { cls := cA, slots := Array.replicate N (defaultValue (newarray.typeOf aty)), vm := .none }) T.heap.size (.inr (newarray.typeOf aty), List.replicate N (defaultValue (newarray.typeOf aty))) := by
    refine ⟨{ cls := cA, slots := Array.replicate N (defaultValue (newarray.typeOf aty)), vm := .none }, ⟨by simp, ⟨by simp, kZ, z1, comp, by rw [← h3, z3]⟩, by simp⟩, by simp, by simp; omega, fun v hv => ?_, h1⟩
    rw [List.eq_of_mem_replicate hv]
    cases aty <;> rfl
  have hsz : T.heap.size = n0 + G.length := hG.2.2.1
  obtain ⟨t, o, st2, h⟩ := hr _ locs X' (Rep.push hG hE (by simp) hO) hF
  rw [hsz] at st
  exact ⟨t, o, st _ st2, h⟩
theorem Walk.initObject (W : Walk tab sig l Z a0 n0 own nm bytes maxL ret R Q J) {idx : Nat} {a : Addr} (hd : decode bytes pc = .ok (.invokespecial idx, 3)) (w1 : Jvm.Cond.methodLink own idx Lib.objectInit ∈ tab) (w2 : Jvm.Cond.instanceMethod Lib.objectInit ∈ tab) (w3 : Jvm.Cond.code Lib.objectInit ⟨#[0xb1]⟩ 1 none ∈ tab)
    (hsz : Ls.length = maxL) (hf : Nat.ble 1 R.frames = true) (hl : Nat.ble ((S.map fun v => v.category).sum + 12) R.locals = true) (hr : J pc' Ls S G k sl) (hp : pc + 3 = pc' := by rfl) : J pc Ls (.ref a :: S) G k sl := by
  obtain ⟨p, e, s, m, args, below, meth, c, rfl, hx, hby, hml, hret, hlk, hnm, hZ, hown, hw, hS⟩ := W
  subst hp
  intro T locs X hG hF
  obtain ⟨T', X', e', st⟩ := initO X hx hZ hown (hw _ w1) (hw _ w2) (hw _ w3) rfl (g := mkF m pc Ls.toArray (.ref a :: S)) rfl (by rw [hml, ← hsz]; simp) rfl (Jvm.hb hby hd) (Nat.le_of_ble_eq_true hf) (W := (S.map fun v => v.category).sum) (by show 2 * 0 + _ ≤ _; omega) (Nat.le_of_ble_eq_true hl)
  obtain ⟨t, o, st2, h⟩ := hr T' locs X' (by rw [e']; exact hG) hF
  exact ⟨t, o, st _ st2, h⟩
theorem fitC_of {c : Cell} {ty : FieldType} {vs : List Value} (A : Arr Z h a c ty) (hs : c.slots.toList = vs) (hf : ∀ v ∈ vs, fits ty v = true) : FitC Z c := fun i v hv => by
  obtain ⟨-, k, hk, comp, hkind⟩ := A.2.1
  have hm : v ∈ vs := by
    rw [← hs]
    have hv' : c.slots.toList[i]? = some v := by simpa using hv
    exact List.mem_of_getElem? hv'
  have e : Z.slotType? c.cls .none i = some ty := by simp [State.slotType?, hk, hkind]
  simp [State.fitsSlot, e, hf v hm]
theorem Walk.clone (W : Walk tab sig l Z a0 n0 own nm bytes maxL ret R Q J) {idx N : Nat} {ty : FieldType} {vs : List Value} {ad : String} (hd : decode bytes pc = .ok (.invokevirtual idx, 3))
    (w1 : Jvm.Cond.methodLink own idx ⟨ad, "clone", "()Ljava/lang/Object;"⟩ ∈ tab) (w2 : Jvm.Cond.sameMethod ad "java/lang/Object" "clone" "()Ljava/lang/Object;" ∈ tab) (w3 : Jvm.Cond.native ⟨"java/lang/Object", "clone", "()Ljava/lang/Object;"⟩ ∈ tab) (w4 : Jvm.Cond.instanceMethod ⟨"java/lang/Object", "clone", "()Ljava/lang/Object;"⟩ ∈ tab)
    (w5 : Jvm.Cond.selects ad ⟨ad, "clone", "()Ljava/lang/Object;"⟩ ⟨"java/lang/Object", "clone", "()Ljava/lang/Object;"⟩ ∈ tab) (w6 : Jvm.Cond.castable ad "java/lang/Cloneable" ∈ tab)
    (hO : G[j]? = some (.inr ty, vs)) (had : "[" ++ ty.toString = ad) (hsz : Ls.length = maxL) (hf : Nat.ble 1 R.frames = true) (hl : Nat.ble ((S.map fun v => v.category).sum + 14) R.locals = true) (hN : vs.length = N) (hk : k + 1 ≤ R.cells) (hsl : sl + N ≤ R.slots)
    (hr : J pc' Ls (.ref (n0 + G.length) :: S) (G ++ [(.inr ty, vs)]) (k + 1) (sl + N)) (hp : pc + 3 = pc' := by rfl) : J pc Ls (.ref (n0 + j) :: S) G k sl := by
  obtain ⟨p, e, s, m, args, below, meth, c, rfl, hx, hby, hml, hret, hlk, hnm, hZ, hown, hw, hS⟩ := W
  subst hp had
  intro T locs X hG hF
  obtain ⟨cl, A, hs, hlt, hfits, hcls⟩ := hG.2.2.2 j _ hO
  obtain ⟨c1, cC, g1, g2, g3⟩ := Cond.castable_spec (hw _ w6)
  cases hcls.symm.trans g1
  have hal : Z.vm.Alike T.vm := hZ.alike.trans X.warmed.alike
  have hsz' : cl.slots.size = N := by rw [← hN, ← hs]; simp
  have hFC := fitC_of A hs hfits
  obtain ⟨vm', X', st⟩ := X.cloneArray hx hown (mv hZ (hw _ w1)) (mv hZ (hw _ w2)) (mv hZ (hw _ w3)) (mv hZ (hw _ w4)) (mv hZ (hw _ w5)) (a := n0 + j) A.1 A.2.1.1 A.2.2 (by rw [hZ.alike.findClass]; exact hcls) (by rw [hZ.alike.findClass]; exact g2) (by rw [hZ.alike.assignable]; exact g3)
    (fun i v hv => by have q := hFC i v hv; rw [← State.fitsSlot_setVm hal] at q; exact q) (g := mkF m pc Ls.toArray (.ref (n0 + j) :: S)) rfl (by rw [hml, ← hsz]; simp) rfl (Jvm.hb hby hd) (Nat.le_of_ble_eq_true hf) (by show 2 * 0 + _ + 14 ≤ _; have := Nat.le_of_ble_eq_true hl; omega) hk (by rw [hsz']; exact hsl)
    (by obtain ⟨-, k2, hk2, comp, hkind⟩ := A.2.1; rw [hZ.alike.clonesLoader]; exact Vm.clonesLoader_of_array hk2 hkind)
  rw [hsz'] at X'
  have hE : Ext T.heap (T.heap.push (cloneOf cl)) := ext_of fun a q => Array.getElem?_push_lt q |>.trans (Array.getElem?_eq_getElem q).symm
  have hO' : ObjAt sig Z (T.heap.push (cloneOf cl)) T.heap.size (.inr ty, vs) := ⟨cloneOf cl, ⟨by simp, ⟨fun _ z => (by cases z), A.2.1.2⟩, fun z => (by cases z)⟩, hs, hlt, hfits, hcls⟩
  have hsz : T.heap.size = n0 + G.length := hG.2.2.1
  obtain ⟨t, o, st2, h⟩ := hr _ locs X' (Rep.push hG hE (by simp) hO') hF
  rw [hsz] at st
  exact ⟨t, o, st _ st2, h⟩
theorem Walk.castArr (W : Walk tab sig l Z a0 n0 own nm bytes maxL ret R Q J) {idx : Nat} {ty : FieldType} {vs : List Value} {K : String} (hd : decode bytes pc = .ok (.checkcast idx, 3)) (w1 : Jvm.Cond.classLink own idx K ∈ tab) (hO : G[j]? = some (.inr ty, vs)) (hK : "[" ++ ty.toString = K)
    (hr : J pc' Ls (.ref (n0 + j) :: S) G k sl) (hp : pc + 3 = pc' := by rfl) : J pc Ls (.ref (n0 + j) :: S) G k sl := by
  obtain ⟨p, e, s, m, args, below, meth, c, rfl, hx, hby, hml, hret, hlk, hnm, hZ, hown, hw, hS⟩ := W
  subst hp hK
  intro T locs X hG hF
  obtain ⟨cl, A, hs, hlt, hfits, hcls⟩ := hG.2.2.2 j _ hO
  obtain ⟨T', X', e', st⟩ := castY X hx hZ hown (hw _ w1) rfl (a := n0 + j) ⟨cl, cl.cls, A.1, hcls, by simp [A.plain, Vm.assignable_self]⟩ (g := mkF m pc Ls.toArray (.ref (n0 + j) :: S)) rfl rfl (Jvm.hb hby hd)
  obtain ⟨t, o, st2, h⟩ := hr T' locs X' (by rw [e']; exact hG) hF
  exact ⟨t, o, st _ st2, h⟩
theorem Walk.castObj (W : Walk tab sig l Z a0 n0 own nm bytes maxL ret R Q J) {idx ci n : Nat} {C K : String} {fs : List Fd} {vs : List Value} (hd : decode bytes pc = .ok (.checkcast idx, 3)) (w1 : Jvm.Cond.classLink own idx K ∈ tab) (hO : G[j]? = some (.inl ci, vs)) (hc : sig[ci]? = some (C, n, fs)) (w2 : Jvm.Cond.castable C K ∈ tab)
    (hr : J pc' Ls (.ref (n0 + j) :: S) G k sl) (hp : pc + 3 = pc' := by rfl) : J pc Ls (.ref (n0 + j) :: S) G k sl := by
  obtain ⟨p, e, s, m, args, below, meth, c, rfl, hx, hby, hml, hret, hlk, hnm, hZ, hown, hw, hS⟩ := W
  subst hp
  intro T locs X hG hF
  obtain ⟨C', n', fs', e1, E, hlen, F⟩ := hG.2.2.2 j _ hO
  cases hc.symm.trans e1
  obtain ⟨T', X', e', st⟩ := castY X hx hZ hown (hw _ w1) rfl (Ins.of_exa E (hw _ w2)) (g := mkF m pc Ls.toArray (.ref (n0 + j) :: S)) rfl rfl (Jvm.hb hby hd)
  obtain ⟨t, o, st2, h⟩ := hr T' locs X' (by rw [e']; exact hG) hF
  exact ⟨t, o, st _ st2, h⟩
/-! ## calls by their contracts -/
variable {y z : MethodName} {bytes' : ByteArray} {maxL' : Nat} {ret' : Option FieldType} {R' : Room} {as St : List Value} {Q' : Post}
theorem Walk.callStatic (W : Walk tab sig l Z a0 n0 own nm bytes maxL ret R Q J) {idx : Nat} (hd : decode bytes pc = .ok (.invokestatic idx, 3)) (w1 : Jvm.Cond.methodLink own idx y ∈ tab) (w2 : Jvm.Cond.static y ∈ tab) (w3 : Jvm.Cond.initialized y.cls ∈ tab) (w4 : Jvm.Cond.code y bytes' maxL' ret' ∈ tab)
    (hM : Meth sig l Z n0 y bytes' maxL' ret' R' as G Q') (hlen : ∀ sg, parseMethodDescriptor y.desc = some sg → as.length = sg.parameters.length) (hSt : St = as.reverse ++ S) (hsz : Ls.length = maxL) (hf : Nat.ble (R'.frames + 1) R.frames = true) (hl : Nat.ble ((S.map fun v => v.category).sum + (maxL' + 11) + R'.locals) R.locals = true)
    (hk : k + R'.cells ≤ R.cells) (hsl : sl + R'.slots ≤ R.slots) (hr : ∀ v G', Q' v G' → J pc' Ls (v.toList ++ S) G' (k + R'.cells) (sl + R'.slots)) (hp : pc + 3 = pc' := by rfl)
    (hy : y.cls ≠ "java/lang/invoke/MethodHandle" ∧ y.cls ≠ "java/lang/invoke/VarHandle" := by decide) : J pc Ls St G k sl := by
  obtain ⟨p, e, s, m, args, below, meth, c, rfl, hx, hby, hml, hret, hlk, hnm, hZ, hown, hw, hS⟩ := W
  subst hp hSt
  intro T locs X hG hF
  obtain ⟨v, vm₁, ⟨T', L', k', n'⟩, -, X', ⟨Lc, ⟨G', hG', hQ', hF'⟩, l1, y1, z1⟩, st⟩ := Jvm.LawKit.callS X hx (y := y) hown (mvT hZ (hw _ w1)) (mvT hZ (hw _ w2)) (mvT hZ (hw _ w3)) (mvT hZ (hw _ w4)) hy
    (backOf (W := (S.map fun v => v.category).sum) (Q := fun v h L => ∃ G', Rep sig Z n0 h G' ∧ Q' v G' ∧ Fr n0 L) (hM [] T.heap hG) hZ (hw _ w4) (hw _ w3) (Nat.le_of_ble_eq_true hf) (Nat.le_of_ble_eq_true hl))
    (g := mkF m pc Ls.toArray (as.reverse ++ S)) rfl (by rw [hml, ← hsz]; simp) (argsL := as) (rest := S) hlen rfl (by show 2 * 0 + _ ≤ _; omega) (Jvm.hb hby hd) (fun _ _ => ⟨rfl, rfl, hk, hsl⟩)
  dsimp only [Pt.U, Pt.locs, Pt.cells, Pt.slots] at X' l1 y1 z1 st hG'
  subst l1 y1 z1
  obtain ⟨t, o, st2, h⟩ := hr v G' hQ' T' _ X' hG' (Fr.app hF hF')
  exact ⟨t, o, st _ st2, h⟩
theorem Walk.callInit (W : Walk tab sig l Z a0 n0 own nm bytes maxL ret R Q J) {idx : Nat} {a : Addr} (hd : decode bytes pc = .ok (.invokespecial idx, 3)) (w1 : Jvm.Cond.methodLink own idx y ∈ tab) (w2 : Jvm.Cond.instanceMethod y ∈ tab) (w3 : Jvm.Cond.initialized y.cls ∈ tab) (w4 : Jvm.Cond.code y bytes' maxL' none ∈ tab)
    (hM : Meth sig l Z n0 y bytes' maxL' none R' (.ref a :: as) G Q') (hlen : ∀ sg, parseMethodDescriptor y.desc = some sg → as.length = sg.parameters.length) (hSt : St = as.reverse ++ .ref a :: S) (hsz : Ls.length = maxL) (hf : Nat.ble (R'.frames + 1) R.frames = true) (hl : Nat.ble ((S.map fun v => v.category).sum + (maxL' + 11) + R'.locals) R.locals = true)
    (hk : k + R'.cells ≤ R.cells) (hsl : sl + R'.slots ≤ R.slots) (hr : ∀ v G', Q' v G' → J pc' Ls (v.toList ++ S) G' (k + R'.cells) (sl + R'.slots)) (hp : pc + 3 = pc' := by rfl) (hy1 : y.name = "<init>" := by rfl)
    (hy : y.cls ≠ "java/lang/invoke/MethodHandle" ∧ y.cls ≠ "java/lang/invoke/VarHandle" := by decide) : J pc Ls St G k sl := by
  obtain ⟨p, e, s, m, args, below, meth, c, rfl, hx, hby, hml, hret, hlk, hnm, hZ, hown, hw, hS⟩ := W
  subst hp hSt
  intro T locs X hG hF
  obtain ⟨v, vm₁, ⟨T', L', k', n'⟩, -, X', ⟨Lc, ⟨G', hG', hQ', hF'⟩, l1, y1, z1⟩, st⟩ := X.specialBack hx (y := y) hy1 hown (mvT hZ (hw _ w1)) (mvT hZ (hw _ w2)) (mvT hZ (hw _ w4)) hy
    (backOf (W := (S.map fun v => v.category).sum) (Q := fun v h L => ∃ G', Rep sig Z n0 h G' ∧ Q' v G' ∧ Fr n0 L) (hM [] T.heap hG) hZ (hw _ w4) (hw _ w3) (Nat.le_of_ble_eq_true hf) (Nat.le_of_ble_eq_true hl))
    (g := mkF m pc Ls.toArray (as.reverse ++ .ref a :: S)) rfl (by rw [hml, ← hsz]; simp) (Steps.refl _) (a := a) (argsL := as) (rest := S) hlen rfl (by show 2 * 0 + _ ≤ _; omega) (Jvm.hb hby hd) (fun _ _ => ⟨rfl, rfl, hk, hsl⟩)
  dsimp only [Pt.U, Pt.locs, Pt.cells, Pt.slots] at X' l1 y1 z1 st hG'
  subst l1 y1 z1
  obtain ⟨t, o, st2, h⟩ := hr v G' hQ' T' _ X' hG' (Fr.app hF hF')
  exact ⟨t, o, st.trans st2, h⟩
theorem Walk.callVirtual (W : Walk tab sig l Z a0 n0 own nm bytes maxL ret R Q J) {idx ci n : Nat} {C : String} {fs : List Fd} {vs : List Value} (hd : decode bytes pc = .ok (.invokevirtual idx, 3)) (w1 : Jvm.Cond.methodLink own idx y ∈ tab) (w2 : Jvm.Cond.declares y ∈ tab) (w3 : Jvm.Cond.selects C y y ∈ tab) (w4 : Jvm.Cond.instanceMethod y ∈ tab) (w5 : Jvm.Cond.initialized y.cls ∈ tab) (w6 : Jvm.Cond.code y bytes' maxL' ret' ∈ tab)
    (hO : G[j]? = some (.inl ci, vs)) (hc : sig[ci]? = some (C, n, fs))
    (hM : Meth sig l Z n0 y bytes' maxL' ret' R' (.ref (n0 + j) :: as) G Q') (hlen : ∀ sg, parseMethodDescriptor y.desc = some sg → as.length = sg.parameters.length) (hSt : St = as.reverse ++ .ref (n0 + j) :: S) (hsz : Ls.length = maxL) (hf : Nat.ble (R'.frames + 1) R.frames = true) (hl : Nat.ble ((S.map fun v => v.category).sum + (maxL' + 11) + R'.locals) R.locals = true)
    (hk : k + R'.cells ≤ R.cells) (hsl : sl + R'.slots ≤ R.slots) (hr : ∀ v G', Q' v G' → J pc' Ls (v.toList ++ S) G' (k + R'.cells) (sl + R'.slots)) (hp : pc + 3 = pc' := by rfl)
    (hy : y.cls ≠ "java/lang/invoke/MethodHandle" ∧ y.cls ≠ "java/lang/invoke/VarHandle" := by decide) : J pc Ls St G k sl := by
  obtain ⟨p, e, s, m, args, below, meth, c, rfl, hx, hby, hml, hret, hlk, hnm, hZ, hown, hw, hS⟩ := W
  subst hp hSt
  intro T locs X hG hF
  obtain ⟨C', n', fs', e1, E, hlen', F⟩ := hG.2.2.2 j _ hO
  cases hc.symm.trans e1
  obtain ⟨cq, kq, qa, qb, qc⟩ := isOf hZ rfl E
  obtain ⟨v, vm₁, ⟨T', L', k', n'⟩, -, X', ⟨Lc, ⟨G', hG', hQ', hF'⟩, l1, y1, z1⟩, st⟩ := X.virtualBack hx (y := y) (z := y) hown (mvT hZ (hw _ w1)) (mvT hZ (hw _ w2)) (notFace_of_selects (args := #[]) (mvT hZ (hw _ w3))) (mvT hZ (hw _ w3)) (mvT hZ (hw _ w4)) hy
    (backOf (W := (S.map fun v => v.category).sum) (Q := fun v h L => ∃ G', Rep sig Z n0 h G' ∧ Q' v G' ∧ Fr n0 L) (hM [] T.heap hG) hZ (hw _ w6) (hw _ w5) (Nat.le_of_ble_eq_true hf) (Nat.le_of_ble_eq_true hl)) qa qc
    (g := mkF m pc Ls.toArray (as.reverse ++ .ref (n0 + j) :: S)) rfl (by rw [hml, ← hsz]; simp) (Steps.refl _) (argsL := as) (rest := S) hlen rfl (by show 2 * 0 + _ ≤ _; omega) (Jvm.hb hby hd) (fun _ _ => ⟨rfl, rfl, hk, hsl⟩)
  dsimp only [Pt.U, Pt.locs, Pt.cells, Pt.slots] at X' l1 y1 z1 st hG'
  subst l1 y1 z1
  obtain ⟨t, o, st2, h⟩ := hr v G' hQ' T' _ X' hG' (Fr.app hF hF')
  exact ⟨t, o, st.trans st2, h⟩
theorem Walk.callPrivate (W : Walk tab sig l Z a0 n0 own nm bytes maxL ret R Q J) {idx ci n : Nat} {fs : List Fd} {vs : List Value} (hd : decode bytes pc = .ok (.invokevirtual idx, 3)) (w1 : Jvm.Cond.methodLink own idx y ∈ tab) (w2 : Jvm.Cond.instanceMethod y ∈ tab) (w3 : Jvm.Cond.privateMethod y ∈ tab) (w5 : Jvm.Cond.initialized y.cls ∈ tab) (w6 : Jvm.Cond.code y bytes' maxL' ret' ∈ tab)
    (hO : G[j]? = some (.inl ci, vs)) (hc : sig[ci]? = some (y.cls, n, fs))
    (hM : Meth sig l Z n0 y bytes' maxL' ret' R' (.ref (n0 + j) :: as) G Q') (hlen : ∀ sg, parseMethodDescriptor y.desc = some sg → as.length = sg.parameters.length) (hSt : St = as.reverse ++ .ref (n0 + j) :: S) (hsz : Ls.length = maxL) (hf : Nat.ble (R'.frames + 1) R.frames = true) (hl : Nat.ble ((S.map fun v => v.category).sum + (maxL' + 11) + R'.locals) R.locals = true)
    (hk : k + R'.cells ≤ R.cells) (hsl : sl + R'.slots ≤ R.slots) (hr : ∀ v G', Q' v G' → J pc' Ls (v.toList ++ S) G' (k + R'.cells) (sl + R'.slots)) (hp : pc + 3 = pc' := by rfl)
    (hy : y.cls ≠ "java/lang/invoke/MethodHandle" ∧ y.cls ≠ "java/lang/invoke/VarHandle" := by decide) : J pc Ls St G k sl := by
  obtain ⟨p, e, s, m, args, below, meth, c, rfl, hx, hby, hml, hret, hlk, hnm, hZ, hown, hw, hS⟩ := W
  subst hp hSt
  intro T locs X hG hF
  obtain ⟨C', n', fs', e1, E, hlen', F⟩ := hG.2.2.2 j _ hO
  cases hc.symm.trans e1
  obtain ⟨cq, q1, q2⟩ := E.cell
  have hpv : s.PrivateAt y := Cond.privateMethod_at (mvP hZ (hw _ w3) (args := #[]))
  have hin : (Jvm.Cond.instanceMethod y).before args s = true := mvT hZ (hw _ w2)
  have wi : (Jvm.Cond.instantiable y.cls n).before args s = true := mvT hZ (hw _ (hS ci _ n fs hc).1)
  obtain ⟨cc, kc, i1, i2, i3, i4, -⟩ := Cond.instantiable_spec wi
  have i5 : kc.isInterface = false := by
    cases hq : kc.isInterface with
    | false => rfl
    | true => rw [hq] at i4; cases i4
  obtain ⟨v, vm₁, ⟨T', L', k', n'⟩, -, X', ⟨Lc, ⟨G', hG', hQ', hF'⟩, l1, y1, z1⟩, st⟩ := X.privateBack hx (y := y) hown (mvT hZ (hw _ w1)) hin (selects_self_of_private i1 i2 i5 hpv hin hy) hpv (mvT hZ (hw _ w6)) hy
    (backOf (W := (S.map fun v => v.category).sum) (Q := fun v h L => ∃ G', Rep sig Z n0 h G' ∧ Q' v G' ∧ Fr n0 L) (hM [] T.heap hG) hZ (hw _ w6) (hw _ w5) (Nat.le_of_ble_eq_true hf) (Nat.le_of_ble_eq_true hl))
    (g := mkF m pc Ls.toArray (as.reverse ++ .ref (n0 + j) :: S)) rfl (by rw [hml, ← hsz]; simp) (Steps.refl _) q1 q2 (argsL := as) (rest := S) hlen rfl (by show 2 * 0 + _ ≤ _; omega) (Jvm.hb hby hd) (fun _ _ => ⟨rfl, rfl, hk, hsl⟩)
  dsimp only [Pt.U, Pt.locs, Pt.cells, Pt.slots] at X' l1 y1 z1 st hG'
  subst l1 y1 z1
  obtain ⟨t, o, st2, h⟩ := hr v G' hQ' T' _ X' hG' (Fr.app hF hF')
  exact ⟨t, o, st.trans st2, h⟩
/-! ## returns -/
theorem Walk.retV {t : FieldType} (W : Walk tab sig l Z a0 n0 own nm bytes maxL (some t) R Q J) {i : Instr} (hd : decode bytes pc = .ok (i, 1)) (hn : narrow t v = v)
    (hi : (i = .ireturn ∧ (t = .int ∨ t = .boolean ∨ t = .byte ∨ t = .char ∨ t = .short) ∧ ∃ z, v = .int z) ∨ (i = .lreturn ∧ t = .long ∧ ∃ z, v = .long z) ∨ (i = .dreturn ∧ t = .double ∧ ∃ z, v = .double z) ∨ (i = .freturn ∧ t = .float ∧ ∃ z, v = .float z) ∨ (i = .areturn ∧ t.isReference = true ∧ v.isRef = true))
    (hk : k ≤ R.cells) (hsl : sl ≤ R.slots) (hq : Q (some v) G) : J pc Ls (v :: S) G k sl := by
  obtain ⟨p, e, s, m, args, below, meth, c, rfl, hx, hby, hml, hret, hlk, hnm, hZ, hown, hw, hS⟩ := W
  intro T locs X hG hF
  obtain ⟨fs, hr, hrun, hended, hW, hsame⟩ := X.leave (v := some v) (fun h => by rw [hret] at h; cases h) hlk
  exact ⟨_, _, retOut X hx hret hn hi (Jvm.hb hby hd) hr, hrun, hended, _, _, rfl, ⟨G, hG, hq, hF⟩, ⟨_, rfl⟩, hW, hsame.mono hk hsl⟩
theorem Walk.ireturn (W : Walk tab sig l Z a0 n0 own nm bytes maxL (some .int) R Q J) {z : Int32} (hd : decode bytes pc = .ok (.ireturn, 1)) (hk : k ≤ R.cells) (hsl : sl ≤ R.slots) (hq : Q (some (.int z)) G) : J pc Ls (.int z :: S) G k sl :=
  W.retV hd rfl (Or.inl ⟨rfl, Or.inl rfl, z, rfl⟩) hk hsl hq
theorem Walk.zreturn (W : Walk tab sig l Z a0 n0 own nm bytes maxL (some .boolean) R Q J) {z : Int32} (hd : decode bytes pc = .ok (.ireturn, 1)) (hz : z = 0 ∨ z = 1) (hk : k ≤ R.cells) (hsl : sl ≤ R.slots) (hq : Q (some (.int z)) G) : J pc Ls (.int z :: S) G k sl :=
  W.retV hd (by rcases hz with rfl | rfl <;> rfl) (Or.inl ⟨rfl, Or.inr (Or.inl rfl), z, rfl⟩) hk hsl hq
theorem Walk.lreturn (W : Walk tab sig l Z a0 n0 own nm bytes maxL (some .long) R Q J) {z : Int64} (hd : decode bytes pc = .ok (.lreturn, 1)) (hk : k ≤ R.cells) (hsl : sl ≤ R.slots) (hq : Q (some (.long z)) G) : J pc Ls (.long z :: S) G k sl :=
  W.retV hd rfl (Or.inr (Or.inl ⟨rfl, rfl, z, rfl⟩)) hk hsl hq
theorem Walk.areturn {t : FieldType} (W : Walk tab sig l Z a0 n0 own nm bytes maxL (some t) R Q J) (hd : decode bytes pc = .ok (.areturn, 1)) (ht : t.isReference = true) (hv : v.isRef = true) (hk : k ≤ R.cells) (hsl : sl ≤ R.slots) (hq : Q (some v) G) : J pc Ls (v :: S) G k sl :=
  W.retV hd (by rcases ref_cases hv with rfl | ⟨a, rfl⟩ <;> cases t <;> rfl) (Or.inr (Or.inr (Or.inr (Or.inr ⟨rfl, ht, hv⟩)))) hk hsl hq
theorem Walk.return_ (W : Walk tab sig l Z a0 n0 own nm bytes maxL none R Q J) (hd : decode bytes pc = .ok (.return_, 1)) (hk : k ≤ R.cells) (hsl : sl ≤ R.slots) (hq : Q none G) : J pc Ls [] G k sl := by
  obtain ⟨p, e, s, m, args, below, meth, c, rfl, hx, hby, hml, hret, hlk, hnm, hZ, hown, hw, hS⟩ := W
  intro T locs X hG hF
  obtain ⟨fs, hr, hrun, hended, hW, hsame⟩ := X.leave (v := none) (fun _ => rfl) hlk
  exact ⟨_, _, X.returnOut hx hret (Jvm.hb hby hd) hr, hrun, hended, _, _, rfl, ⟨G, hG, hq, hF⟩, ⟨_, rfl⟩, hW, hsame.mono hk hsl⟩
end Heap
end Jvm.OwnWP
namespace Jvm.Pilot.@@N@@
open Jvm Jvm.ClassFile Sem Op Lib Jvm.Free Jvm.Stand Jvm.LawKit Jvm.RoadKit Bundle Jvm.OwnWP Jvm.Pilot.@@N@@.Jvm.D
theorem pn_prog_135_method_4_code : plainFor (⟨"com/example/millrace/millrace/replay/JobList", "longAt", "([B)J"⟩ : MethodName) = true := by first | exact plainFor_of_name (by first | (simp [plainName, overriddenIn]; done) | decide +kernel) | decide +kernel
theorem pn_code : plainFor x = true := by first | exact plainFor_of_name (by first | (simp [plainName, overriddenIn]; done) | decide +kernel) | decide +kernel
def sg : Sig := []
theorem sgOk : SigOk tables_1 sg := by
  intro ci C n fs h
  cases h
theorem pd0 : parseMethodDescriptor "([B)J" = some ⟨[(.array .byte)], some .long⟩ := by decide +kernel
theorem d_prog_135_method_4_code_0 : decode prog_135_method_4_code 0 = .ok (.lconst 0, 1) := by decide +kernel
theorem d_prog_135_method_4_code_1 : decode prog_135_method_4_code 1 = .ok (.lstore_n 1, 1) := by decide +kernel
theorem d_prog_135_method_4_code_2 : decode prog_135_method_4_code 2 = .ok (.iconst 0, 1) := by decide +kernel
theorem d_prog_135_method_4_code_3 : decode prog_135_method_4_code 3 = .ok (.istore_n 3, 1) := by decide +kernel
theorem d_prog_135_method_4_code_4 : decode prog_135_method_4_code 4 = .ok (.iload_n 3, 1) := by decide +kernel
theorem d_prog_135_method_4_code_5 : decode prog_135_method_4_code 5 = .ok (.bipush 8, 2) := by decide +kernel
theorem d_prog_135_method_4_code_7 : decode prog_135_method_4_code 7 = .ok (.if_icmp .ge 23, 3) := by decide +kernel
theorem d_prog_135_method_4_code_10 : decode prog_135_method_4_code 10 = .ok (.lload_n 1, 1) := by decide +kernel
theorem d_prog_135_method_4_code_11 : decode prog_135_method_4_code 11 = .ok (.bipush 8, 2) := by decide +kernel
theorem d_prog_135_method_4_code_13 : decode prog_135_method_4_code 13 = .ok (.lshl, 1) := by decide +kernel
theorem d_prog_135_method_4_code_14 : decode prog_135_method_4_code 14 = .ok (.aload_n 0, 1) := by decide +kernel
theorem d_prog_135_method_4_code_15 : decode prog_135_method_4_code 15 = .ok (.iload_n 3, 1) := by decide +kernel
theorem d_prog_135_method_4_code_16 : decode prog_135_method_4_code 16 = .ok (.baload, 1) := by decide +kernel
theorem d_prog_135_method_4_code_17 : decode prog_135_method_4_code 17 = .ok (.sipush 255, 3) := by decide +kernel
theorem d_prog_135_method_4_code_20 : decode prog_135_method_4_code 20 = .ok (.iand, 1) := by decide +kernel
theorem d_prog_135_method_4_code_21 : decode prog_135_method_4_code 21 = .ok (.i2l, 1) := by decide +kernel
theorem d_prog_135_method_4_code_22 : decode prog_135_method_4_code 22 = .ok (.lor, 1) := by decide +kernel
theorem d_prog_135_method_4_code_23 : decode prog_135_method_4_code 23 = .ok (.lstore_n 1, 1) := by decide +kernel
theorem d_prog_135_method_4_code_24 : decode prog_135_method_4_code 24 = .ok (.iinc 3 1, 3) := by decide +kernel
theorem d_prog_135_method_4_code_27 : decode prog_135_method_4_code 27 = .ok (.goto (-23), 3) := by decide +kernel
theorem d_prog_135_method_4_code_30 : decode prog_135_method_4_code 30 = .ok (.lload_n 1, 1) := by decide +kernel
theorem d_prog_135_method_4_code_31 : decode prog_135_method_4_code 31 = .ok (.lreturn, 1) := by decide +kernel
theorem own_m8 (z : Int32) : (z &&& 255).toInt = z.toInt % 2 ^ 8 := Jvm.Kit.i32_mask z 255 (k := 8) (by decide) (by decide)
theorem own_m8L (z : Int64) : (z &&& 255).toInt = z.toInt % 2 ^ 8 := Jvm.Kit.i64_mask z 255 (k := 8) (by decide) (by decide)
theorem own_byte (y : Int64) : (y.toInt32.toInt8.toInt32.toInt8.toInt32 &&& 255).toInt64 = y &&& 255 := by
  rw [← Int64.toInt_inj, Int32.toInt_toInt64, own_m8, own_m8L, Int8.toInt_toInt32, Int32.toInt_toInt8, Int8.toInt_toInt32, Int32.toInt_toInt8, Int64.toInt_toInt32]
  simp only [Int.bmod_def]
  omega
theorem own_ushr (x : Int64) (n : Int32) (k : Nat) (h : (n.toInt64.toUInt64 &&& Int64.toUInt64 63).toNat % 64 = k) : (XT.ushrL x n).toBitVec = x.toBitVec >>> k := by
  subst h
  unfold XT.ushrL
  show (x.toUInt64 >>> _).toBitVec = _
  rw [UInt64.toBitVec_shiftRight]
  apply BitVec.eq_of_toNat_eq
  simp [BitVec.toNat_ushiftRight]
  rfl
theorem own_bits (X : BitVec 64) (s : Nat) : (X >>> (s + 8)) <<< 8 ||| ((X >>> s) &&& 255#64) = X >>> s := by
  apply BitVec.eq_of_getLsbD_eq
  intro i hi
  have h255 : (255#64).getLsbD i = decide (i < 8) := by
    have : ∀ i < 64, (255#64).getLsbD i = decide (i < 8) := by decide
    exact this i hi
  simp only [BitVec.getLsbD_or, BitVec.getLsbD_shiftLeft, BitVec.getLsbD_ushiftRight, BitVec.getLsbD_and, h255, hi, decide_true, Bool.true_and]
  by_cases q : i < 8
  · simp [q]
  · have e : s + 8 + (i - 8) = s + i := by omega
    simp [q, e]
def own_st (acc : Int64) (b : Int32) : Int64 := (acc <<< ((8 : Int32).toInt64 &&& 63)) ||| (b &&& 255).toInt64
theorem own_next (x : Int64) (acc : Int64) (y : Int64) (s : Nat) (ha : acc.toBitVec = x.toBitVec >>> (s + 8)) (hy : y.toBitVec = x.toBitVec >>> s) : (own_st acc (y.toInt32.toInt8.toInt32.toInt8.toInt32)).toBitVec = x.toBitVec >>> s := by
  unfold own_st
  rw [own_byte y, show ((8 : Int32).toInt64 &&& 63) = 8 from by decide]
  show (acc <<< (8 : Int64)).toBitVec ||| (y &&& 255).toBitVec = _
  have e : (acc <<< (8 : Int64)).toBitVec = acc.toBitVec <<< 8 := by
    show acc.toBitVec <<< _ = _
    rfl
  have e2 : (y &&& 255).toBitVec = y.toBitVec &&& 255#64 := rfl
  rw [e, e2, ha, hy, own_bits]
set_option maxRecDepth 65536 in
set_option maxHeartbeats 4000000 in
theorem m_JobList_longAt_A {l : Launch} {Z : State} {a0 : Array Value} {n0 : Nat} (hw : ∀ d ∈ tables_1, d.before a0 Z = true) {b0 b1 b2 b3 b4 b5 b6 b7 b8 b9 b10 b11 b12 b13 b14 b15 : Int32} :
    Meth sg l Z n0 (⟨"com/example/millrace/millrace/replay/JobList", "longAt", "([B)J"⟩ : MethodName) prog_135_method_4_code 4 (some .long) ({ frames := 0, cells := 0, slots := 0, locals := 0 } : Room) [.ref (n0 + 0)] [(.inr .byte, [.int b0, .int b1, .int b2, .int b3, .int b4, .int b5, .int b6, .int b7, .int b8, .int b9, .int b10, .int b11, .int b12, .int b13, .int b14, .int b15])] (fun v G' => v = some (.long (own_st (own_st (own_st (own_st (own_st (own_st (own_st (own_st 0 b0) b1) b2) b3) b4) b5) b6) b7)) ∧ G' = [(.inr .byte, [.int b0, .int b1, .int b2, .int b3, .int b4, .int b5, .int b6, .int b7, .int b8, .int b9, .int b10, .int b11, .int b12, .int b13, .int b14, .int b15])]) := by
  refine Meth.of (a0 := a0) (tab := tables_1) (Ls := [.val (.ref (n0 + 0)), .unset, .unset, .unset]) pn_prog_135_method_4_code hw sgOk (fun m => by first | rfl | (simp [entryFrame, mkF, argsToLocals, Value.category]; done)) ?_
  intro J W
  refine W.lconst (pc' := 1) (0) d_prog_135_method_4_code_0 rfl ?_
  refine W.lstoreN (pc' := 2) (i' := 1) d_prog_135_method_4_code_1 rfl ?_
  simp only [List.length_cons, List.length_nil, Nat.reduceAdd, Nat.zero_add, List.cons_append, List.nil_append, List.set_cons_zero, List.set_cons_succ, Option.toList]
  refine W.iconst (pc' := 3) (0) d_prog_135_method_4_code_2 rfl ?_
  refine W.istoreN (pc' := 4) (i' := 3) d_prog_135_method_4_code_3 rfl ?_
  simp only [List.length_cons, List.length_nil, Nat.reduceAdd, Nat.zero_add, List.cons_append, List.nil_append, List.set_cons_zero, List.set_cons_succ, Option.toList]
  refine W.iloadN (pc' := 5) d_prog_135_method_4_code_4 rfl ?_
  refine W.bipush (pc' := 7) (8) d_prog_135_method_4_code_5 rfl ?_
  refine W.icmp_ge (pc' := 30) (pc2 := 10) d_prog_135_method_4_code_7 (fun _ => ?_) (fun hc => absurd (by decide) hc)
  refine W.lloadN (pc' := 11) d_prog_135_method_4_code_10 rfl ?_
  refine W.bipush (pc' := 13) (8) d_prog_135_method_4_code_11 rfl ?_
  refine W.lshl (pc' := 14) d_prog_135_method_4_code_13 ?_
  refine W.aloadN (pc' := 15) d_prog_135_method_4_code_14 rfl rfl ?_
  refine W.iloadN (pc' := 16) d_prog_135_method_4_code_15 rfl ?_
  refine W.baload (pc' := 17) 0 d_prog_135_method_4_code_16 rfl rfl rfl ?_
  refine W.sipush (pc' := 20) (255) d_prog_135_method_4_code_17 rfl ?_
  refine W.iand (pc' := 21) d_prog_135_method_4_code_20 ?_
  refine W.i2l (pc' := 22) d_prog_135_method_4_code_21 ?_
  refine W.lor (pc' := 23) d_prog_135_method_4_code_22 ?_
  refine W.lstoreN (pc' := 24) (i' := 1) d_prog_135_method_4_code_23 rfl ?_
  simp only [List.length_cons, List.length_nil, Nat.reduceAdd, Nat.zero_add, List.cons_append, List.nil_append, List.set_cons_zero, List.set_cons_succ, Option.toList]
  refine W.iinc (pc' := 27) (1) d_prog_135_method_4_code_24 rfl rfl ?_
  simp only [List.length_cons, List.length_nil, Nat.reduceAdd, Nat.zero_add, List.cons_append, List.nil_append, List.set_cons_zero, List.set_cons_succ, Option.toList]
  refine W.goto (pc' := 4) d_prog_135_method_4_code_27 ?_
  refine W.iloadN (pc' := 5) d_prog_135_method_4_code_4 rfl ?_
  refine W.bipush (pc' := 7) (8) d_prog_135_method_4_code_5 rfl ?_
  refine W.icmp_ge (pc' := 30) (pc2 := 10) d_prog_135_method_4_code_7 (fun _ => ?_) (fun hc => absurd (by decide) hc)
  refine W.lloadN (pc' := 11) d_prog_135_method_4_code_10 rfl ?_
  refine W.bipush (pc' := 13) (8) d_prog_135_method_4_code_11 rfl ?_
  refine W.lshl (pc' := 14) d_prog_135_method_4_code_13 ?_
  refine W.aloadN (pc' := 15) d_prog_135_method_4_code_14 rfl rfl ?_
  refine W.iloadN (pc' := 16) d_prog_135_method_4_code_15 rfl ?_
  refine W.baload (pc' := 17) 1 d_prog_135_method_4_code_16 rfl rfl rfl ?_
  refine W.sipush (pc' := 20) (255) d_prog_135_method_4_code_17 rfl ?_
  refine W.iand (pc' := 21) d_prog_135_method_4_code_20 ?_
  refine W.i2l (pc' := 22) d_prog_135_method_4_code_21 ?_
  refine W.lor (pc' := 23) d_prog_135_method_4_code_22 ?_
  refine W.lstoreN (pc' := 24) (i' := 1) d_prog_135_method_4_code_23 rfl ?_
  simp only [List.length_cons, List.length_nil, Nat.reduceAdd, Nat.zero_add, List.cons_append, List.nil_append, List.set_cons_zero, List.set_cons_succ, Option.toList]
  refine W.iinc (pc' := 27) (1) d_prog_135_method_4_code_24 rfl rfl ?_
  simp only [List.length_cons, List.length_nil, Nat.reduceAdd, Nat.zero_add, List.cons_append, List.nil_append, List.set_cons_zero, List.set_cons_succ, Option.toList]
  refine W.goto (pc' := 4) d_prog_135_method_4_code_27 ?_
  refine W.iloadN (pc' := 5) d_prog_135_method_4_code_4 rfl ?_
  refine W.bipush (pc' := 7) (8) d_prog_135_method_4_code_5 rfl ?_
  refine W.icmp_ge (pc' := 30) (pc2 := 10) d_prog_135_method_4_code_7 (fun _ => ?_) (fun hc => absurd (by decide) hc)
  refine W.lloadN (pc' := 11) d_prog_135_method_4_code_10 rfl ?_
  refine W.bipush (pc' := 13) (8) d_prog_135_method_4_code_11 rfl ?_
  refine W.lshl (pc' := 14) d_prog_135_method_4_code_13 ?_
  refine W.aloadN (pc' := 15) d_prog_135_method_4_code_14 rfl rfl ?_
  refine W.iloadN (pc' := 16) d_prog_135_method_4_code_15 rfl ?_
  refine W.baload (pc' := 17) 2 d_prog_135_method_4_code_16 rfl rfl rfl ?_
  refine W.sipush (pc' := 20) (255) d_prog_135_method_4_code_17 rfl ?_
  refine W.iand (pc' := 21) d_prog_135_method_4_code_20 ?_
  refine W.i2l (pc' := 22) d_prog_135_method_4_code_21 ?_
  refine W.lor (pc' := 23) d_prog_135_method_4_code_22 ?_
  refine W.lstoreN (pc' := 24) (i' := 1) d_prog_135_method_4_code_23 rfl ?_
  simp only [List.length_cons, List.length_nil, Nat.reduceAdd, Nat.zero_add, List.cons_append, List.nil_append, List.set_cons_zero, List.set_cons_succ, Option.toList]
  refine W.iinc (pc' := 27) (1) d_prog_135_method_4_code_24 rfl rfl ?_
  simp only [List.length_cons, List.length_nil, Nat.reduceAdd, Nat.zero_add, List.cons_append, List.nil_append, List.set_cons_zero, List.set_cons_succ, Option.toList]
  refine W.goto (pc' := 4) d_prog_135_method_4_code_27 ?_
  refine W.iloadN (pc' := 5) d_prog_135_method_4_code_4 rfl ?_
  refine W.bipush (pc' := 7) (8) d_prog_135_method_4_code_5 rfl ?_
  refine W.icmp_ge (pc' := 30) (pc2 := 10) d_prog_135_method_4_code_7 (fun _ => ?_) (fun hc => absurd (by decide) hc)
  refine W.lloadN (pc' := 11) d_prog_135_method_4_code_10 rfl ?_
  refine W.bipush (pc' := 13) (8) d_prog_135_method_4_code_11 rfl ?_
  refine W.lshl (pc' := 14) d_prog_135_method_4_code_13 ?_
  refine W.aloadN (pc' := 15) d_prog_135_method_4_code_14 rfl rfl ?_
  refine W.iloadN (pc' := 16) d_prog_135_method_4_code_15 rfl ?_
  refine W.baload (pc' := 17) 3 d_prog_135_method_4_code_16 rfl rfl rfl ?_
  refine W.sipush (pc' := 20) (255) d_prog_135_method_4_code_17 rfl ?_
  refine W.iand (pc' := 21) d_prog_135_method_4_code_20 ?_
  refine W.i2l (pc' := 22) d_prog_135_method_4_code_21 ?_
  refine W.lor (pc' := 23) d_prog_135_method_4_code_22 ?_
  refine W.lstoreN (pc' := 24) (i' := 1) d_prog_135_method_4_code_23 rfl ?_
  simp only [List.length_cons, List.length_nil, Nat.reduceAdd, Nat.zero_add, List.cons_append, List.nil_append, List.set_cons_zero, List.set_cons_succ, Option.toList]
  refine W.iinc (pc' := 27) (1) d_prog_135_method_4_code_24 rfl rfl ?_
  simp only [List.length_cons, List.length_nil, Nat.reduceAdd, Nat.zero_add, List.cons_append, List.nil_append, List.set_cons_zero, List.set_cons_succ, Option.toList]
  refine W.goto (pc' := 4) d_prog_135_method_4_code_27 ?_
  refine W.iloadN (pc' := 5) d_prog_135_method_4_code_4 rfl ?_
  refine W.bipush (pc' := 7) (8) d_prog_135_method_4_code_5 rfl ?_
  refine W.icmp_ge (pc' := 30) (pc2 := 10) d_prog_135_method_4_code_7 (fun _ => ?_) (fun hc => absurd (by decide) hc)
  refine W.lloadN (pc' := 11) d_prog_135_method_4_code_10 rfl ?_
  refine W.bipush (pc' := 13) (8) d_prog_135_method_4_code_11 rfl ?_
  refine W.lshl (pc' := 14) d_prog_135_method_4_code_13 ?_
  refine W.aloadN (pc' := 15) d_prog_135_method_4_code_14 rfl rfl ?_
  refine W.iloadN (pc' := 16) d_prog_135_method_4_code_15 rfl ?_
  refine W.baload (pc' := 17) 4 d_prog_135_method_4_code_16 rfl rfl rfl ?_
  refine W.sipush (pc' := 20) (255) d_prog_135_method_4_code_17 rfl ?_
  refine W.iand (pc' := 21) d_prog_135_method_4_code_20 ?_
  refine W.i2l (pc' := 22) d_prog_135_method_4_code_21 ?_
  refine W.lor (pc' := 23) d_prog_135_method_4_code_22 ?_
  refine W.lstoreN (pc' := 24) (i' := 1) d_prog_135_method_4_code_23 rfl ?_
  simp only [List.length_cons, List.length_nil, Nat.reduceAdd, Nat.zero_add, List.cons_append, List.nil_append, List.set_cons_zero, List.set_cons_succ, Option.toList]
  refine W.iinc (pc' := 27) (1) d_prog_135_method_4_code_24 rfl rfl ?_
  simp only [List.length_cons, List.length_nil, Nat.reduceAdd, Nat.zero_add, List.cons_append, List.nil_append, List.set_cons_zero, List.set_cons_succ, Option.toList]
  refine W.goto (pc' := 4) d_prog_135_method_4_code_27 ?_
  refine W.iloadN (pc' := 5) d_prog_135_method_4_code_4 rfl ?_
  refine W.bipush (pc' := 7) (8) d_prog_135_method_4_code_5 rfl ?_
  refine W.icmp_ge (pc' := 30) (pc2 := 10) d_prog_135_method_4_code_7 (fun _ => ?_) (fun hc => absurd (by decide) hc)
  refine W.lloadN (pc' := 11) d_prog_135_method_4_code_10 rfl ?_
  refine W.bipush (pc' := 13) (8) d_prog_135_method_4_code_11 rfl ?_
  refine W.lshl (pc' := 14) d_prog_135_method_4_code_13 ?_
  refine W.aloadN (pc' := 15) d_prog_135_method_4_code_14 rfl rfl ?_
  refine W.iloadN (pc' := 16) d_prog_135_method_4_code_15 rfl ?_
  refine W.baload (pc' := 17) 5 d_prog_135_method_4_code_16 rfl rfl rfl ?_
  refine W.sipush (pc' := 20) (255) d_prog_135_method_4_code_17 rfl ?_
  refine W.iand (pc' := 21) d_prog_135_method_4_code_20 ?_
  refine W.i2l (pc' := 22) d_prog_135_method_4_code_21 ?_
  refine W.lor (pc' := 23) d_prog_135_method_4_code_22 ?_
  refine W.lstoreN (pc' := 24) (i' := 1) d_prog_135_method_4_code_23 rfl ?_
  simp only [List.length_cons, List.length_nil, Nat.reduceAdd, Nat.zero_add, List.cons_append, List.nil_append, List.set_cons_zero, List.set_cons_succ, Option.toList]
  refine W.iinc (pc' := 27) (1) d_prog_135_method_4_code_24 rfl rfl ?_
  simp only [List.length_cons, List.length_nil, Nat.reduceAdd, Nat.zero_add, List.cons_append, List.nil_append, List.set_cons_zero, List.set_cons_succ, Option.toList]
  refine W.goto (pc' := 4) d_prog_135_method_4_code_27 ?_
  refine W.iloadN (pc' := 5) d_prog_135_method_4_code_4 rfl ?_
  refine W.bipush (pc' := 7) (8) d_prog_135_method_4_code_5 rfl ?_
  refine W.icmp_ge (pc' := 30) (pc2 := 10) d_prog_135_method_4_code_7 (fun _ => ?_) (fun hc => absurd (by decide) hc)
  refine W.lloadN (pc' := 11) d_prog_135_method_4_code_10 rfl ?_
  refine W.bipush (pc' := 13) (8) d_prog_135_method_4_code_11 rfl ?_
  refine W.lshl (pc' := 14) d_prog_135_method_4_code_13 ?_
  refine W.aloadN (pc' := 15) d_prog_135_method_4_code_14 rfl rfl ?_
  refine W.iloadN (pc' := 16) d_prog_135_method_4_code_15 rfl ?_
  refine W.baload (pc' := 17) 6 d_prog_135_method_4_code_16 rfl rfl rfl ?_
  refine W.sipush (pc' := 20) (255) d_prog_135_method_4_code_17 rfl ?_
  refine W.iand (pc' := 21) d_prog_135_method_4_code_20 ?_
  refine W.i2l (pc' := 22) d_prog_135_method_4_code_21 ?_
  refine W.lor (pc' := 23) d_prog_135_method_4_code_22 ?_
  refine W.lstoreN (pc' := 24) (i' := 1) d_prog_135_method_4_code_23 rfl ?_
  simp only [List.length_cons, List.length_nil, Nat.reduceAdd, Nat.zero_add, List.cons_append, List.nil_append, List.set_cons_zero, List.set_cons_succ, Option.toList]
  refine W.iinc (pc' := 27) (1) d_prog_135_method_4_code_24 rfl rfl ?_
  simp only [List.length_cons, List.length_nil, Nat.reduceAdd, Nat.zero_add, List.cons_append, List.nil_append, List.set_cons_zero, List.set_cons_succ, Option.toList]
  refine W.goto (pc' := 4) d_prog_135_method_4_code_27 ?_
  refine W.iloadN (pc' := 5) d_prog_135_method_4_code_4 rfl ?_
  refine W.bipush (pc' := 7) (8) d_prog_135_method_4_code_5 rfl ?_
  refine W.icmp_ge (pc' := 30) (pc2 := 10) d_prog_135_method_4_code_7 (fun _ => ?_) (fun hc => absurd (by decide) hc)
  refine W.lloadN (pc' := 11) d_prog_135_method_4_code_10 rfl ?_
  refine W.bipush (pc' := 13) (8) d_prog_135_method_4_code_11 rfl ?_
  refine W.lshl (pc' := 14) d_prog_135_method_4_code_13 ?_
  refine W.aloadN (pc' := 15) d_prog_135_method_4_code_14 rfl rfl ?_
  refine W.iloadN (pc' := 16) d_prog_135_method_4_code_15 rfl ?_
  refine W.baload (pc' := 17) 7 d_prog_135_method_4_code_16 rfl rfl rfl ?_
  refine W.sipush (pc' := 20) (255) d_prog_135_method_4_code_17 rfl ?_
  refine W.iand (pc' := 21) d_prog_135_method_4_code_20 ?_
  refine W.i2l (pc' := 22) d_prog_135_method_4_code_21 ?_
  refine W.lor (pc' := 23) d_prog_135_method_4_code_22 ?_
  refine W.lstoreN (pc' := 24) (i' := 1) d_prog_135_method_4_code_23 rfl ?_
  simp only [List.length_cons, List.length_nil, Nat.reduceAdd, Nat.zero_add, List.cons_append, List.nil_append, List.set_cons_zero, List.set_cons_succ, Option.toList]
  refine W.iinc (pc' := 27) (1) d_prog_135_method_4_code_24 rfl rfl ?_
  simp only [List.length_cons, List.length_nil, Nat.reduceAdd, Nat.zero_add, List.cons_append, List.nil_append, List.set_cons_zero, List.set_cons_succ, Option.toList]
  refine W.goto (pc' := 4) d_prog_135_method_4_code_27 ?_
  refine W.iloadN (pc' := 5) d_prog_135_method_4_code_4 rfl ?_
  refine W.bipush (pc' := 7) (8) d_prog_135_method_4_code_5 rfl ?_
  refine W.icmp_ge (pc' := 30) (pc2 := 10) d_prog_135_method_4_code_7 (fun hc => absurd hc (by decide)) (fun _ => ?_)
  refine W.lloadN (pc' := 31) d_prog_135_method_4_code_30 rfl ?_
  refine W.lreturn d_prog_135_method_4_code_31 (by decide) (by decide) ?_
  exact ⟨rfl, rfl⟩
theorem own_all (a : Int64) : (own_st (own_st (own_st (own_st (own_st (own_st (own_st (own_st 0 ((XT.ushrL a 56).toInt32.toInt8.toInt32.toInt8.toInt32)) ((XT.ushrL a 48).toInt32.toInt8.toInt32.toInt8.toInt32)) ((XT.ushrL a 40).toInt32.toInt8.toInt32.toInt8.toInt32)) ((XT.ushrL a 32).toInt32.toInt8.toInt32.toInt8.toInt32)) ((XT.ushrL a 24).toInt32.toInt8.toInt32.toInt8.toInt32)) ((XT.ushrL a 16).toInt32.toInt8.toInt32.toInt8.toInt32)) ((XT.ushrL a 8).toInt32.toInt8.toInt32.toInt8.toInt32)) (a.toInt32.toInt8.toInt32.toInt8.toInt32)) = a := by
  apply Int64.toBitVec_inj.mp
  have e0 := own_ushr a 56 56 (by decide)
  have e1 := own_ushr a 48 48 (by decide)
  have e2 := own_ushr a 40 40 (by decide)
  have e3 := own_ushr a 32 32 (by decide)
  have e4 := own_ushr a 24 24 (by decide)
  have e5 := own_ushr a 16 16 (by decide)
  have e6 := own_ushr a 8 8 (by decide)
  have z : (0 : Int64).toBitVec = a.toBitVec >>> (56 + 8) := by
    apply BitVec.eq_of_getLsbD_eq
    intro i hi
    simp
  have r0 := own_next a _ _ 56 z e0
  have r1 := own_next a _ _ 48 r0 e1
  have r2 := own_next a _ _ 40 r1 e2
  have r3 := own_next a _ _ 32 r2 e3
  have r4 := own_next a _ _ 24 r3 e4
  have r5 := own_next a _ _ 16 r4 e5
  have r6 := own_next a _ _ 8 r5 e6
  have r7 := own_next a _ a 0 r6 (by simp)
  rw [r7]; simp
set_option maxRecDepth 65536 in
set_option maxHeartbeats 4000000 in
theorem m_law {l : Launch} {Z : State} {a0 : Array Value} {n0 : Nat} (hw : ∀ d ∈ tables_1, d.before a0 Z = true) (a b : Int64) :
    Meth sg l Z n0 x code maxLocals ret room_1 [.long a, .long b] [] (fun v G' => v = some (.int 1)) := by
  refine Meth.of (a0 := a0) (tab := tables_1) (Ls := [.val (.long a), .second, .val (.long b), .second, .unset]) pn_code hw sgOk (fun m => by first | rfl | (simp [entryFrame, mkF, argsToLocals, Value.category, maxLocals]; done)) ?_
  intro J W
  refine W.bipush (pc' := 2) (16) at_0 rfl ?_
  refine W.newarray (pc' := 4) (vs := [.int 0, .int 0, .int 0, .int 0, .int 0, .int 0, .int 0, .int 0, .int 0, .int 0, .int 0, .int 0, .int 0, .int 0, .int 0, .int 0]) 16 at_2 (tw 0 rfl) rfl rfl (by decide) (by decide) (by decide) ?_
  simp only [List.length_cons, List.length_nil, Nat.reduceAdd, Nat.zero_add, List.cons_append, List.nil_append, List.set_cons_zero, List.set_cons_succ, Option.toList]
  refine W.astore (pc' := 6) at_4 rfl rfl ?_
  simp only [List.length_cons, List.length_nil, Nat.reduceAdd, Nat.zero_add, List.cons_append, List.nil_append, List.set_cons_zero, List.set_cons_succ, Option.toList]
  refine W.aload (pc' := 8) at_6 rfl rfl ?_
  refine W.iconst (pc' := 9) (0) at_8 rfl ?_
  refine W.lloadN (pc' := 10) at_9 rfl ?_
  refine W.bipush (pc' := 12) (56) at_10 rfl ?_
  refine W.lushr (pc' := 13) at_12 ?_
  refine W.l2i (pc' := 14) at_13 ?_
  refine W.i2b (pc' := 15) at_14 ?_
  refine W.bastore (pc' := 16) 0 at_15 rfl rfl (Nat.le_of_ble_eq_true rfl) ?_
  simp only [List.length_cons, List.length_nil, Nat.reduceAdd, Nat.zero_add, List.cons_append, List.nil_append, List.set_cons_zero, List.set_cons_succ, Option.toList]
  refine W.aload (pc' := 18) at_16 rfl rfl ?_
  refine W.iconst (pc' := 19) (1) at_18 rfl ?_
  refine W.lloadN (pc' := 20) at_19 rfl ?_
  refine W.bipush (pc' := 22) (48) at_20 rfl ?_
  refine W.lushr (pc' := 23) at_22 ?_
  refine W.l2i (pc' := 24) at_23 ?_
  refine W.i2b (pc' := 25) at_24 ?_
  refine W.bastore (pc' := 26) 1 at_25 rfl rfl (Nat.le_of_ble_eq_true rfl) ?_
  simp only [List.length_cons, List.length_nil, Nat.reduceAdd, Nat.zero_add, List.cons_append, List.nil_append, List.set_cons_zero, List.set_cons_succ, Option.toList]
  refine W.aload (pc' := 28) at_26 rfl rfl ?_
  refine W.iconst (pc' := 29) (2) at_28 rfl ?_
  refine W.lloadN (pc' := 30) at_29 rfl ?_
  refine W.bipush (pc' := 32) (40) at_30 rfl ?_
  refine W.lushr (pc' := 33) at_32 ?_
  refine W.l2i (pc' := 34) at_33 ?_
  refine W.i2b (pc' := 35) at_34 ?_
  refine W.bastore (pc' := 36) 2 at_35 rfl rfl (Nat.le_of_ble_eq_true rfl) ?_
  simp only [List.length_cons, List.length_nil, Nat.reduceAdd, Nat.zero_add, List.cons_append, List.nil_append, List.set_cons_zero, List.set_cons_succ, Option.toList]
  refine W.aload (pc' := 38) at_36 rfl rfl ?_
  refine W.iconst (pc' := 39) (3) at_38 rfl ?_
  refine W.lloadN (pc' := 40) at_39 rfl ?_
  refine W.bipush (pc' := 42) (32) at_40 rfl ?_
  refine W.lushr (pc' := 43) at_42 ?_
  refine W.l2i (pc' := 44) at_43 ?_
  refine W.i2b (pc' := 45) at_44 ?_
  refine W.bastore (pc' := 46) 3 at_45 rfl rfl (Nat.le_of_ble_eq_true rfl) ?_
  simp only [List.length_cons, List.length_nil, Nat.reduceAdd, Nat.zero_add, List.cons_append, List.nil_append, List.set_cons_zero, List.set_cons_succ, Option.toList]
  refine W.aload (pc' := 48) at_46 rfl rfl ?_
  refine W.iconst (pc' := 49) (4) at_48 rfl ?_
  refine W.lloadN (pc' := 50) at_49 rfl ?_
  refine W.bipush (pc' := 52) (24) at_50 rfl ?_
  refine W.lushr (pc' := 53) at_52 ?_
  refine W.l2i (pc' := 54) at_53 ?_
  refine W.i2b (pc' := 55) at_54 ?_
  refine W.bastore (pc' := 56) 4 at_55 rfl rfl (Nat.le_of_ble_eq_true rfl) ?_
  simp only [List.length_cons, List.length_nil, Nat.reduceAdd, Nat.zero_add, List.cons_append, List.nil_append, List.set_cons_zero, List.set_cons_succ, Option.toList]
  refine W.aload (pc' := 58) at_56 rfl rfl ?_
  refine W.iconst (pc' := 59) (5) at_58 rfl ?_
  refine W.lloadN (pc' := 60) at_59 rfl ?_
  refine W.bipush (pc' := 62) (16) at_60 rfl ?_
  refine W.lushr (pc' := 63) at_62 ?_
  refine W.l2i (pc' := 64) at_63 ?_
  refine W.i2b (pc' := 65) at_64 ?_
  refine W.bastore (pc' := 66) 5 at_65 rfl rfl (Nat.le_of_ble_eq_true rfl) ?_
  simp only [List.length_cons, List.length_nil, Nat.reduceAdd, Nat.zero_add, List.cons_append, List.nil_append, List.set_cons_zero, List.set_cons_succ, Option.toList]
  refine W.aload (pc' := 68) at_66 rfl rfl ?_
  refine W.bipush (pc' := 70) (6) at_68 rfl ?_
  refine W.lloadN (pc' := 71) at_70 rfl ?_
  refine W.bipush (pc' := 73) (8) at_71 rfl ?_
  refine W.lushr (pc' := 74) at_73 ?_
  refine W.l2i (pc' := 75) at_74 ?_
  refine W.i2b (pc' := 76) at_75 ?_
  refine W.bastore (pc' := 77) 6 at_76 rfl rfl (Nat.le_of_ble_eq_true rfl) ?_
  simp only [List.length_cons, List.length_nil, Nat.reduceAdd, Nat.zero_add, List.cons_append, List.nil_append, List.set_cons_zero, List.set_cons_succ, Option.toList]
  refine W.aload (pc' := 79) at_77 rfl rfl ?_
  refine W.bipush (pc' := 81) (7) at_79 rfl ?_
  refine W.lloadN (pc' := 82) at_81 rfl ?_
  refine W.l2i (pc' := 83) at_82 ?_
  refine W.i2b (pc' := 84) at_83 ?_
  refine W.bastore (pc' := 85) 7 at_84 rfl rfl (Nat.le_of_ble_eq_true rfl) ?_
  simp only [List.length_cons, List.length_nil, Nat.reduceAdd, Nat.zero_add, List.cons_append, List.nil_append, List.set_cons_zero, List.set_cons_succ, Option.toList]
  refine W.aload (pc' := 87) at_85 rfl rfl ?_
  refine W.bipush (pc' := 89) (8) at_87 rfl ?_
  refine W.lloadN (pc' := 90) at_89 rfl ?_
  refine W.bipush (pc' := 92) (56) at_90 rfl ?_
  refine W.lushr (pc' := 93) at_92 ?_
  refine W.l2i (pc' := 94) at_93 ?_
  refine W.i2b (pc' := 95) at_94 ?_
  refine W.bastore (pc' := 96) 8 at_95 rfl rfl (Nat.le_of_ble_eq_true rfl) ?_
  simp only [List.length_cons, List.length_nil, Nat.reduceAdd, Nat.zero_add, List.cons_append, List.nil_append, List.set_cons_zero, List.set_cons_succ, Option.toList]
  refine W.aload (pc' := 98) at_96 rfl rfl ?_
  refine W.bipush (pc' := 100) (9) at_98 rfl ?_
  refine W.lloadN (pc' := 101) at_100 rfl ?_
  refine W.bipush (pc' := 103) (48) at_101 rfl ?_
  refine W.lushr (pc' := 104) at_103 ?_
  refine W.l2i (pc' := 105) at_104 ?_
  refine W.i2b (pc' := 106) at_105 ?_
  refine W.bastore (pc' := 107) 9 at_106 rfl rfl (Nat.le_of_ble_eq_true rfl) ?_
  simp only [List.length_cons, List.length_nil, Nat.reduceAdd, Nat.zero_add, List.cons_append, List.nil_append, List.set_cons_zero, List.set_cons_succ, Option.toList]
  refine W.aload (pc' := 109) at_107 rfl rfl ?_
  refine W.bipush (pc' := 111) (10) at_109 rfl ?_
  refine W.lloadN (pc' := 112) at_111 rfl ?_
  refine W.bipush (pc' := 114) (40) at_112 rfl ?_
  refine W.lushr (pc' := 115) at_114 ?_
  refine W.l2i (pc' := 116) at_115 ?_
  refine W.i2b (pc' := 117) at_116 ?_
  refine W.bastore (pc' := 118) 10 at_117 rfl rfl (Nat.le_of_ble_eq_true rfl) ?_
  simp only [List.length_cons, List.length_nil, Nat.reduceAdd, Nat.zero_add, List.cons_append, List.nil_append, List.set_cons_zero, List.set_cons_succ, Option.toList]
  refine W.aload (pc' := 120) at_118 rfl rfl ?_
  refine W.bipush (pc' := 122) (11) at_120 rfl ?_
  refine W.lloadN (pc' := 123) at_122 rfl ?_
  refine W.bipush (pc' := 125) (32) at_123 rfl ?_
  refine W.lushr (pc' := 126) at_125 ?_
  refine W.l2i (pc' := 127) at_126 ?_
  refine W.i2b (pc' := 128) at_127 ?_
  refine W.bastore (pc' := 129) 11 at_128 rfl rfl (Nat.le_of_ble_eq_true rfl) ?_
  simp only [List.length_cons, List.length_nil, Nat.reduceAdd, Nat.zero_add, List.cons_append, List.nil_append, List.set_cons_zero, List.set_cons_succ, Option.toList]
  refine W.aload (pc' := 131) at_129 rfl rfl ?_
  refine W.bipush (pc' := 133) (12) at_131 rfl ?_
  refine W.lloadN (pc' := 134) at_133 rfl ?_
  refine W.bipush (pc' := 136) (24) at_134 rfl ?_
  refine W.lushr (pc' := 137) at_136 ?_
  refine W.l2i (pc' := 138) at_137 ?_
  refine W.i2b (pc' := 139) at_138 ?_
  refine W.bastore (pc' := 140) 12 at_139 rfl rfl (Nat.le_of_ble_eq_true rfl) ?_
  simp only [List.length_cons, List.length_nil, Nat.reduceAdd, Nat.zero_add, List.cons_append, List.nil_append, List.set_cons_zero, List.set_cons_succ, Option.toList]
  refine W.aload (pc' := 142) at_140 rfl rfl ?_
  refine W.bipush (pc' := 144) (13) at_142 rfl ?_
  refine W.lloadN (pc' := 145) at_144 rfl ?_
  refine W.bipush (pc' := 147) (16) at_145 rfl ?_
  refine W.lushr (pc' := 148) at_147 ?_
  refine W.l2i (pc' := 149) at_148 ?_
  refine W.i2b (pc' := 150) at_149 ?_
  refine W.bastore (pc' := 151) 13 at_150 rfl rfl (Nat.le_of_ble_eq_true rfl) ?_
  simp only [List.length_cons, List.length_nil, Nat.reduceAdd, Nat.zero_add, List.cons_append, List.nil_append, List.set_cons_zero, List.set_cons_succ, Option.toList]
  refine W.aload (pc' := 153) at_151 rfl rfl ?_
  refine W.bipush (pc' := 155) (14) at_153 rfl ?_
  refine W.lloadN (pc' := 156) at_155 rfl ?_
  refine W.bipush (pc' := 158) (8) at_156 rfl ?_
  refine W.lushr (pc' := 159) at_158 ?_
  refine W.l2i (pc' := 160) at_159 ?_
  refine W.i2b (pc' := 161) at_160 ?_
  refine W.bastore (pc' := 162) 14 at_161 rfl rfl (Nat.le_of_ble_eq_true rfl) ?_
  simp only [List.length_cons, List.length_nil, Nat.reduceAdd, Nat.zero_add, List.cons_append, List.nil_append, List.set_cons_zero, List.set_cons_succ, Option.toList]
  refine W.aload (pc' := 164) at_162 rfl rfl ?_
  refine W.bipush (pc' := 166) (15) at_164 rfl ?_
  refine W.lloadN (pc' := 167) at_166 rfl ?_
  refine W.l2i (pc' := 168) at_167 ?_
  refine W.i2b (pc' := 169) at_168 ?_
  refine W.bastore (pc' := 170) 15 at_169 rfl rfl (Nat.le_of_ble_eq_true rfl) ?_
  simp only [List.length_cons, List.length_nil, Nat.reduceAdd, Nat.zero_add, List.cons_append, List.nil_append, List.set_cons_zero, List.set_cons_succ, Option.toList]
  refine W.aload (pc' := 172) at_170 rfl rfl ?_
  refine W.callStatic (pc' := 175) at_172 (tw 1 rfl) (tw 2 rfl) (tw 3 rfl) (tw 4 rfl) (m_JobList_longAt_A hw) (lenOf pd0 rfl) rfl rfl rfl rfl (by decide) (by decide) (fun v G' hQ => ?_)
  obtain ⟨rfl, rfl⟩ := hQ
  simp only [List.length_cons, List.length_nil, Nat.reduceAdd, Nat.zero_add, List.cons_append, List.nil_append, List.set_cons_zero, List.set_cons_succ, Option.toList]
  refine W.lloadN (pc' := 176) at_175 rfl ?_
  refine W.lcmp (pc' := 177) at_176 ?_
  refine W.ifl_ne (pc' := 184) (pc2 := 180) at_177 (fun _ => ?_) (fun hc => absurd (own_all a) hc)
  refine W.iconst (pc' := 181) (1) at_180 rfl ?_
  refine W.goto (pc' := 185) at_181 ?_
  refine W.zreturn at_185 (by decide) (by decide) (by decide) ?_
  rfl
set_option maxRecDepth 65536 in
set_option maxHeartbeats 4000000 in
theorem comes_1 {Post : Tables → Env → Array Value → State → Outcome → State → Prop} (hpost : ∀ tb e args s v u, (limb_1_1.after args s (.returned v) u = true ∧ limb_1_2.after args s (.returned v) u = true ∧ True) → FrameEnd s (.returned v) u (Jvm.fieldLocs frame_1_writes args s ++ Jvm.arrayLocs frame_1_arrays args s ++ Jvm.staticLocs frame_1_statics s) 16 128 → Post tb e args s (.returned v) u) :
    ArmFor flags0 classFile x code maxLocals ret World_1 tables_1 room_1 Calls_1 rest_1 Pre_1 Post := by
  intro l hfl _ _ p e ha hc hk s m args below hf hA hF happ hP
  obtain ⟨hcalls, hrest, hpre⟩ := hP
  obtain ⟨-, -, -, hnamed, -, -, -, hat⟩ := (Spec.applies_iff hf).mp happ
  obtain ⟨hg, hn⟩ := and_e (Cond.before_iff.mp (show (Jvm.Cond.and given_1 narrow_1).before args s = true from hpre))
  obtain ⟨g0, h0⟩ := and_e hg
  obtain ⟨w0, w1, rfl⟩ : ∃ w0 w1 : Value, args = #[w0, w1] := by
    have hs : args.size = 2 := by simpa [Cond.value, given_1] using g0
    obtain ⟨L⟩ := args
    match L, hs with
    | [w0, w1], _ => exact ⟨w0, w1, rfl⟩
  have hw := fun d (hd : d ∈ tables_1) => atoms_spec (ws := Jvm.Cond.code x code maxLocals ret :: tables_1) hat d (List.mem_cons_of_mem _ hd)
  obtain ⟨g1, h1⟩ := and_e h0
  obtain ⟨i0, e0⟩ := isL_v g1
  obtain rfl : w0 = (.long i0) := Option.some.inj e0
  obtain ⟨i1, e1⟩ := isL_v h1
  obtain rfl : w1 = (.long i1) := Option.some.inj e1
  obtain ⟨n, o, h1, h2, h3, _, L, rfl, ⟨G', hG', rfl, N⟩, hq⟩ := m_law (l := l) (n0 := s.heap.size) hw i0 i1 tables_1 s.heap (Rep.start s) p e ha hc hk s m _ below hf ((Spec.applies_iff_loose hf).mp happ).1 ⟨rfl, State.Warmed39.refl s, rfl⟩ trivial
  refine ⟨n, _, h1, h2, h3, hpost _ _ _ _ _ _ ⟨Cond.after_iff.mpr rfl, Cond.after_iff.mpr (eq_i res_at (Term.int_eval (1)) rfl), trivial⟩ ⟨hq.1, hq.2.1, (hq.2.2.sift fun y hy => Or.inr (N y hy)).mono (by decide) (by decide)⟩⟩
theorem main_1_1 : Claimed_1_1 := comes_1 fun _ _ _ _ _ _ h hF => ⟨h.1, hF⟩
theorem main_1_2 : Claimed_1_2 := comes_1 fun _ _ _ _ _ _ h hF => ⟨h.2.1, hF⟩
end Jvm.Pilot.@@N@@
namespace Jvm.Pilot.@@N@@
open Jvm Jvm.ClassFile Sem Op Lib Jvm.Free Jvm.Stand Jvm.Pilot.@@N@@.Jvm.D
/-! MADE BY PROGRAM (witnessworld.py) out of the Statement's table words and the real class files: 9 classes; the members and pool entries that the words name. The judged class is class 1, her method 1. -/
namespace start1
open Jvm.ClassFile
def u (s : String) : CpInfo := .utf8 (stringToUtf16 s)
/-- a pool by its gaps: so many unusable entries, then the entry; so many at the end -/
def gap : Nat → List CpInfo → List CpInfo
  | 0, r => r
  | n + 1, r => .unusable :: gap n r
def poolList (es : List (Nat × CpInfo)) (last : Nat) : List CpInfo := es.foldr (fun e r => gap e.1 (e.2 :: r)) (gap last [])
def pool (es : List (Nat × CpInfo)) (last : Nat) : Array CpInfo := ⟨poolList es last⟩
def fileOf (pool : Array CpInfo) (this : Nat) (attrs : Array Attribute := #[]) (ms : Array MethodInfo := #[]) (fl : Nat := 33) (sup : Nat := 0) (ifs : Array Nat := #[]) (fds : Array FieldInfo := #[]) : ClassFile where
  minorVersion := 0
  majorVersion := 65
  constantPool := pool
  accessFlags := fl
  thisClass := this
  superClass := sup
  interfaces := ifs
  fields := fds
  methods := ms
  attributes := attrs
def plain (name : String) (sup : Option ClassId) : Class where
  name := name
  kind := .ordinary
  loader := none
  accessFlags := 33
  super := sup
  interfaces := #[]
  cf := none
  fields := #[]
  methods := #[]
  instanceTypes := #[]
  staticTypes := #[]
  resolved := #[]
  callSites := []
  init := .initialized
  statics := none
  mirror := none

def pool0 : Array CpInfo := pool [(5, u "<init>"), (0, u "()V"), (1, .class_ 10), (1, u "java/lang/Object")] 113

def k0m0 : Method := { name := "<init>", desc := "()V", sig := { parameters := [], returnType := none }, accessFlags := 1, code := none }
/-- java/lang/Object -/
def k0 : Class := { plain "java/lang/Object" none with
  accessFlags := 33
  interfaces := #[]
  cf := some (fileOf pool0 8 #[] #[{ accessFlags := 1, nameIndex := 5, descriptorIndex := 6, attributes := #[] }] 33 0 #[] #[])
  fields := #[]
  methods := #[k0m0]
  instanceTypes := #[]
  staticTypes := #[]
  resolved := Array.replicate 124 none
  statics := none }

def pool1 : Array CpInfo := pool [(2, .class_ 4), (1, u "java/lang/Object"), (0, u "<init>"), (0, u "()V"), (0, .methodref 8 9), (0, .class_ 10), (0, .nameAndType 11 12), (0, u "com/example/millrace/millrace/replay/JobList"), (0, u "longAt"), (0, u "([B)J"), (0, .class_ 14), (0, u "com/example/millrace/millrace/replay/JobListLongAtPinLaw"), (2, u "law"), (0, u "(JJ)Z")] 5

def k1m0 : Method := { name := "<init>", desc := "()V", sig := { parameters := [], returnType := none }, accessFlags := 1, code := none }
def k1c1 : Code := { maxStack := 5, maxLocals := 5, code := code, exceptionTable := #[], attributes := #[] }
def k1m1 : Method := { name := "law", desc := "(JJ)Z", sig := { parameters := [.long, .long], returnType := some .boolean }, accessFlags := 9, code := some k1c1 }
/-- com/example/millrace/millrace/replay/JobListLongAtPinLaw -/
def k1 : Class := { plain "com/example/millrace/millrace/replay/JobListLongAtPinLaw" (some 0) with
  accessFlags := 49
  interfaces := #[]
  cf := some (fileOf pool1 13 #[] #[{ accessFlags := 1, nameIndex := 5, descriptorIndex := 6, attributes := #[] }, { accessFlags := 9, nameIndex := 17, descriptorIndex := 18, attributes := #[] }] 49 2 #[] #[])
  fields := #[]
  methods := #[k1m0, k1m1]
  instanceTypes := #[]
  staticTypes := #[]
  resolved := Array.replicate 24 none
  statics := none }

def pool2 : Array CpInfo := pool [(4, .class_ 6), (1, u "java/lang/Object"), (0, u "<init>"), (0, u "()V"), (4, .class_ 15), (1, u "com/example/millrace/millrace/replay/JobList"), (0, u "distinct"), (0, u "Lcom/example/millrace/millrace/replay/KeySet;"), (21, u "longAt"), (0, u "([B)J"), (2, u "count"), (0, u "J"), (2, u "first"), (2, u "last"), (14, u "VALUE_BYTES"), (0, u "I")] 29

def k2m0 : Method := { name := "<init>", desc := "()V", sig := { parameters := [], returnType := none }, accessFlags := 0, code := none }
def k2c1 : Code := { maxStack := 4, maxLocals := 4, code := prog_135_method_4_code, exceptionTable := #[], attributes := #[] }
def k2m1 : Method := { name := "longAt", desc := "([B)J", sig := { parameters := [(.array .byte)], returnType := some .long }, accessFlags := 8, code := some k2c1 }
/-- com/example/millrace/millrace/replay/JobList -/
def k2 : Class := { plain "com/example/millrace/millrace/replay/JobList" (some 0) with
  accessFlags := 48
  interfaces := #[]
  cf := some (fileOf pool2 13 #[] #[{ accessFlags := 0, nameIndex := 7, descriptorIndex := 8, attributes := #[] }, { accessFlags := 8, nameIndex := 39, descriptorIndex := 40, attributes := #[] }] 48 4 #[] #[{ accessFlags := 24, nameIndex := 65, descriptorIndex := 66, attributes := #[] }, { accessFlags := 2, nameIndex := 43, descriptorIndex := 44, attributes := #[] }, { accessFlags := 18, nameIndex := 16, descriptorIndex := 17, attributes := #[] }, { accessFlags := 2, nameIndex := 47, descriptorIndex := 44, attributes := #[] }, { accessFlags := 2, nameIndex := 50, descriptorIndex := 44, attributes := #[] }])
  fields := #[{ name := "VALUE_BYTES", type := .int, accessFlags := 24, slot := 0, constantValue := 0 }, { name := "count", type := .long, accessFlags := 2, slot := 0, constantValue := 0 }, { name := "distinct", type := (.object "com/example/millrace/millrace/replay/KeySet"), accessFlags := 18, slot := 1, constantValue := 0 }, { name := "first", type := .long, accessFlags := 2, slot := 2, constantValue := 0 }, { name := "last", type := .long, accessFlags := 2, slot := 3, constantValue := 0 }]
  methods := #[k2m0, k2m1]
  instanceTypes := #[.long, (.object "com/example/millrace/millrace/replay/KeySet"), .long, .long]
  staticTypes := #[.int]
  resolved := Array.replicate 96 none
  statics := none }

def pool3 : Array CpInfo := pool [(1, u "java/lang/Cloneable"), (0, .class_ 1), (0, u "java/lang/Object"), (0, .class_ 3)] 3

/-- java/lang/Cloneable -/
def k3 : Class := { plain "java/lang/Cloneable" (some 0) with
  accessFlags := 1537
  interfaces := #[]
  cf := some (fileOf pool3 2 #[] #[] 1537 4 #[] #[])
  fields := #[]
  methods := #[]
  instanceTypes := #[]
  staticTypes := #[]
  resolved := Array.replicate 8 none
  statics := none }

def pool4 : Array CpInfo := pool [(1, u "java/io/Serializable"), (0, .class_ 1), (0, u "java/lang/Object"), (0, .class_ 3)] 3

/-- java/io/Serializable -/
def k4 : Class := { plain "java/io/Serializable" (some 0) with
  accessFlags := 1537
  interfaces := #[]
  cf := some (fileOf pool4 2 #[] #[] 1537 4 #[] #[])
  fields := #[]
  methods := #[]
  instanceTypes := #[]
  staticTypes := #[]
  resolved := Array.replicate 8 none
  statics := none }

/-- the primitive byte -/
def k5 : Class := { plain "byte" none with kind := .primitive 'B', accessFlags := 0x411 }
/-- [B -/
def k6 : Class := { plain "[B" (some 0) with kind := .array 5 .byte, interfaces := #[3, 4], accessFlags := 1041 }

/-- the primitive int -/
def k7 : Class := { plain "int" none with kind := .primitive 'I', accessFlags := 0x411 }
/-- [I -/
def k8 : Class := { plain "[I" (some 0) with kind := .array 7 .int, interfaces := #[3, 4], accessFlags := 1041 }

def heap : Heap := #[]
def classes : Array Class := #[k0, k1, k2, k3, k4, k5, k6, k7, k8]
def interned : List (Array UInt16 × Addr) := []
def slotsUsed : Nat := 0
def theMethod : MethodId := ⟨1, 1⟩
def args0 : Array Value := #[.long 4, .long 7]
def aboutOver (below : List Frame) : State where
  vm := { classes := classes, interned := interned.toArray }
  heap := heap
  slotsUsed := slotsUsed
  threads := #[{ frames := .invoking theMethod args0 :: below }]
def below0 : List Frame := [.native { method := ⟨0, 0⟩, args := #[] }]
def about1 : State := aboutOver below0
def p0 : Program := .bare "" "" ""
def e0 : Env := launch0.env 0 0 0
theorem w_frames : about1.frames = Frame.invoking theMethod args0 :: below0 := rfl
set_option maxRecDepth 65536 in
theorem w_args : argsFit about1.vm theMethod args0 = true := by decide +kernel
set_option maxRecDepth 65536 in
theorem w_heap : heapFits about1 = true := by decide +kernel
set_option maxRecDepth 65536 in
theorem w_runnable : about1.curStatus? = some .runnable := by decide +kernel
set_option maxRecDepth 65536 in
theorem w_alone : about1.alone = true := by decide +kernel
set_option maxRecDepth 65536 in
theorem w_named : about1.methodNamed? x = some theMethod := by decide +kernel
set_option maxRecDepth 65536 in
theorem w_hears : about1.hears theMethod below0 = true := by decide +kernel
set_option maxRecDepth 65536 in
theorem w_ripe : about1.ripe theMethod args0 below0 = true := by decide +kernel
theorem w_running : about1.status = .running := rfl
set_option maxRecDepth 65536 in
theorem w_room : about1.hasRoom e0.platform room_1 = true :=
  launch0.hasRoom_least _ room_1 (by decide +kernel) (by decide +kernel) (by decide +kernel) (by decide +kernel) (by decide +kernel) (by decide +kernel)
theorem allAtoms_all (ts : List Jvm.Cond) (a : Array Jvm.Value) (st : Jvm.State) : (allAtoms ts).before a st = ts.all (fun c => c.before a st) := by
  induction ts with
  | nil => rfl
  | cons c t ih =>
    show (Jvm.Cond.and c (allAtoms t)).before a st = _
    rw [Jvm.Cond.before_and, ih, List.all_cons]
def words1 : List Jvm.Cond := Jvm.Cond.code x code maxLocals ret :: tables_1
/-- a 'code' word, met by the world's own term for the bytes: nothing is compared byte by byte -/
theorem code_word {y : MethodName} {bytes : ByteArray} {mx : Nat} {rt : Option FieldType} {a : Array Value} {s : State} {m : MethodId} {meth : Method} {c : Code} (h1 : s.methodNamed? y = some m) (h2 : s.vm.method? m = some meth) (h3 : meth.code = some c) (h4 : c.code = bytes)
    (h5 : (c.maxLocals == mx && c.exceptionTable.isEmpty && decide (c.maxStack ≤ mostOperands) && decide (meth.sig.returnType = rt) && !meth.locks && decide (parseMethodDescriptor y.desc = some meth.sig)) = true) : (Jvm.Cond.code y bytes mx rt).before a s = true := by
  simp only [Bool.and_eq_true, beq_iff_eq, Bool.not_eq_true', decide_eq_true_eq] at h5
  obtain ⟨⟨⟨⟨⟨g1, g2⟩, g3⟩, g4⟩, g5⟩, g6⟩ := h5
  simp [Cond.before, Cond.holds, Cond.value, h1, h2, h3, h4, g1, g2, g3, g4, g5, g6]
def isCode : Jvm.Cond → Bool
  | .code _ _ _ _ => true
  | _ => false
theorem all_split {L : List Jvm.Cond} {P : Jvm.Cond → Bool} (h1 : L.all (fun c => isCode c || P c) = true) (h2 : ∀ c ∈ L.filter isCode, P c = true) : L.all P = true := by
  refine List.all_eq_true.mpr fun c hc => ?_
  have h := List.all_eq_true.mp h1 c hc
  rcases Bool.eq_false_or_eq_true (isCode c) with hi | hi
  · exact h2 c (List.mem_filter.mpr ⟨hc, hi⟩)
  · simpa [hi] using h
set_option maxRecDepth 65536 in
theorem w_c0 : (Jvm.Cond.code x code maxLocals ret).before args0 about1 = true := code_word (m := ⟨1, 1⟩) (meth := k1m1) (c := k1c1) (by decide +kernel) rfl rfl rfl (by decide +kernel)
set_option maxRecDepth 65536 in
theorem w_c1 : (Jvm.Cond.code ({ cls := "com/example/millrace/millrace/replay/JobList", name := "longAt", desc := "([B)J" } : Jvm.MethodName) prog_135_method_4_code (4 : Nat) (Option.some Jvm.ClassFile.FieldType.long)).before args0 about1 = true := code_word (m := ⟨2, 1⟩) (meth := k2m1) (c := k2c1) (by decide +kernel) rfl rfl rfl (by decide +kernel)
def codes1 : List Jvm.Cond := [Jvm.Cond.code x code maxLocals ret, Jvm.Cond.code ({ cls := "com/example/millrace/millrace/replay/JobList", name := "longAt", desc := "([B)J" } : Jvm.MethodName) prog_135_method_4_code (4 : Nat) (Option.some Jvm.ClassFile.FieldType.long)]
set_option maxRecDepth 65536 in
theorem codes_eq : words1.filter isCode = codes1 := rfl
theorem w_codes : ∀ c ∈ words1.filter isCode, c.before args0 about1 = true := by
  rw [codes_eq]
  intro c hc
  simp only [codes1, List.mem_cons, List.not_mem_nil, or_false] at hc
  rcases hc with rfl | rfl
  · exact w_c0
  · exact w_c1
set_option maxRecDepth 65536 in
theorem w_t1 : words1.all (fun c => isCode c || c.before args0 about1) = true := by decide +kernel
theorem w_tables : (allAtoms (Jvm.Cond.code x code maxLocals ret :: tables_1)).before args0 about1 = true := by
  rw [allAtoms_all]
  show words1.all (fun c => c.before args0 about1) = true
  refine all_split ?_ w_codes
  rw [w_t1]
set_option maxRecDepth 65536 in
theorem w_case : (Jvm.Cond.and given_1 narrow_1).before args0 about1 = true := by decide +kernel
theorem w_applies : (headSpec (Jvm.Cond.code x code maxLocals ret :: tables_1) room_1).applies x e0.platform about1 = true :=
  (Spec.applies_iff w_frames).mpr ⟨w_running, w_runnable, w_alone, w_named, w_hears, w_ripe, w_room, w_tables⟩
theorem atStart : AtStart classFile x code maxLocals ret World_1 tables_1 room_1 Calls_1 rest_1 Pre_1 launch0 p0 e0 about1 theMethod args0 below0 :=
  ⟨lists_1, trivial, launch0.admits_env _ _ _, launch0.least_env, fairChoices_fair.cas, fairChoices_fair.clock, w_frames, w_args, w_heap, w_applies, trivial, trivial, w_case⟩
end start1
theorem witness_1 : WitnessClaimed_1 := ⟨start1.p0, start1.e0, start1.about1, start1.theMethod, start1.args0, start1.below0, start1.atStart⟩
end Jvm.Pilot.@@N@@
