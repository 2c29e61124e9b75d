import JvmDerived
import JvmDerived.Pilot.@@N@@Statement
import JvmDerived.Pilot.@@N@@Code
set_option linter.unusedVariables false
set_option linter.unusedSimpArgs false
@@BLOCK:NumsL.lean.txt@@
namespace Jvm.OwnWP
open Sem ClassFile Op Lib Jvm.Free Jvm.Stand Jvm.LawKit Jvm.RoadKit
/-! ## the ghost heap: what the law has made so far, cell by cell -/
/-- a field: the class that declares it, its name, its descriptor, its type -/
abbrev Fd := String × String × String × FieldType
/-- a class: its name, its number of slots, its fields -/
abbrev Sig := List (String × Nat × List Fd)
/-- an object: the number of its class, or an array's element type; the fields' values in the class's order, or the components -/
abbrev Obj := (Nat ⊕ FieldType) × List Value
abbrev Ghost := List Obj
def ObjAt (sig : Sig) (Z : State) (h : Heap) (a : Addr) : Obj → Prop
  | (.inl ci, vs) => ∃ (C : String) (n : Nat) (fs : List Fd), sig[ci]? = some (C, n, fs) ∧ Exa Z h a C ∧ vs.length = fs.length ∧ ∀ (i : Nat) (O nm d : String) (ty : FieldType) (v : Value), fs[i]? = some (O, nm, d, ty) → vs[i]? = some v → Fld Z h a O nm d v
  | (.inr ty, vs) => ∃ c : Cell, Arr Z h a c ty ∧ c.slots.toList = vs ∧ vs.length < 2 ^ 31 ∧ (∀ v ∈ vs, fits ty v = true) ∧ Z.vm.findClass ("[" ++ ty.toString) = some c.cls
def Rep (sig : Sig) (Z : State) (n0 : Nat) (h : Heap) (G : Ghost) : Prop :=
  n0 = Z.heap.size ∧ Ext Z.heap h ∧ h.size = n0 + G.length ∧ ∀ (k : Nat) (o : Obj), G[k]? = some o → ObjAt sig Z h (n0 + k) o
/-- the sheet's words for the classes of `sig` -/
def SigOk (tab : List Jvm.Cond) (sig : Sig) : Prop :=
  ∀ (ci : Nat) (C : String) (n : Nat) (fs : List Fd), sig[ci]? = some (C, n, fs) → Jvm.Cond.instantiable C n ∈ tab ∧ (∀ f ∈ fs, (Jvm.Cond.lays C f.1 f.2.1 f.2.2.1 ∈ tab ∨ Jvm.Cond.laysFinal C f.1 f.2.1 f.2.2.1 ∈ tab) ∧ parseFieldDescriptor f.2.2.1 = some f.2.2.2) ∧ (fs.map (·.2.1)).Nodup
theorem tw {α : Type} {l : List α} (i : Nat) {x : α} (h : l[i]? = some x) : x ∈ l := List.mem_of_getElem? h
abbrev JT := Nat → List Slot → List Value → Ghost → Nat → Nat → Prop
abbrev Post := Option Value → Ghost → Prop
def Fin1 (sig : Sig) (Z : State) (n0 : Nat) (Q : Post) (KC KS : Nat) (p : Program) (e : Env) (below : List Frame) (s : State) (U : State) : Prop :=
  ∃ t o, Steps p.tables e below U t ∧ t.status = .running ∧ Ended t below o ∧ ∃ v L, o = .returned v ∧ (∃ G', Rep sig Z n0 t.heap G' ∧ Q v G' ∧ Fr n0 L) ∧ FrameEnd s o t L KC KS
def Wp (sig : Sig) (Z : State) (n0 : Nat) (Q : Post) (p : Program) (l : Launch) (e : Env) (R : Room) (s : State) (m : MethodId) (args : Array Value) (below : List Frame) (meth : Method) (c : Code) : JT :=
  fun pc Ls S G k sl => ∀ T locs, Stand p l e R s m args below meth c T locs k sl → Rep sig Z n0 T.heap G → Fr n0 locs → Fin1 sig Z n0 Q R.cells R.slots p e below s (T.setTop (mkF m pc Ls.toArray S))
/-- J is the weakest precondition of one body's walk -/
def Walk (tab : List Jvm.Cond) (sig : Sig) (l : Launch) (Z : State) (a0 : Array Value) (n0 : Nat) (own nm : String) (bytes : ByteArray) (maxL : Nat) (ret : Option FieldType) (R : Room) (Q : Post) (J : JT) : Prop :=
  ∃ p e s m args below meth c, J = Wp sig Z n0 Q p l e R s m args below meth c ∧ p.tables.exec = Jvm.exec ∧ c.code = bytes ∧ c.maxLocals = maxL ∧ meth.sig.returnType = ret ∧ meth.locks = false ∧ meth.name = nm ∧ Z.Warmed39 s.vm ∧ s.vm.findClass own = some m.cls ∧ (∀ d ∈ tab, d.before a0 Z = true) ∧ SigOk tab sig
/-- the contract of a method: at the arguments `as` and the ghost heap G it returns, and Q holds of what it returns and of the ghost heap it leaves -/
def Meth (sig : Sig) (l : Launch) (Z : State) (n0 : Nat) (y : MethodName) (bytes : ByteArray) (maxL : Nat) (ret : Option FieldType) (R : Room) (as : List Value) (G : Ghost) (Q : Post) : Prop :=
  ∀ (ws : List Jvm.Cond) (h0 : Heap), Rep sig Z n0 h0 G → MetFree l y (head1 (Jvm.Cond.code y bytes maxL ret :: ws) R) (fun a U => a = as.toArray ∧ Z.Warmed39 U.vm ∧ U.heap = h0) (fun _ _ _ _ _ => True)
    (fun _ U o U' => ∃ v L, o = .returned v ∧ (∃ G', Rep sig Z n0 U'.heap G' ∧ Q v G' ∧ Fr n0 L) ∧ FrameEnd U o U' L R.cells R.slots)
section Body
variable {tab : List Jvm.Cond} {sig : Sig} {l : Launch} {Z : State} {a0 : Array Value} {n0 : Nat} {bytes : ByteArray} {maxL : Nat} {ret : Option FieldType} {R : Room} {Q : Post}
theorem Meth.of {y : MethodName} {as : List Value} {G : Ghost} {Ls : List Slot} (hpl : plainFor y = true) (hw : ∀ d ∈ tab, d.before a0 Z = true) (hS : SigOk tab sig)
    (hent : ∀ m, entryFrame m as.toArray maxL = mkF m 0 Ls.toArray [])
    (body : ∀ J, Walk tab sig l Z a0 n0 y.cls y.name bytes maxL ret R Q J → J 0 Ls [] G 0 0) : Meth sig l Z n0 y bytes maxL ret R as G Q := by
  intro ws h0 hrep
  refine MetFree.of_bodySF hpl hisR ?_
  intro p e s m args below meth c s₁ Bd hml0 hP hK
  obtain ⟨rfl, hZ, hh⟩ := hP
  have hown : s.vm.findClass y.cls = some m.cls := findClass_of_methodNamed Bd.named
  have hnm := (name_of_methodNamed Bd.named Bd.method).1
  have X0 : Stand p l e R s m as.toArray below meth c s₁ [] 0 0 := Stand.of_body Bd
  have e0 : s₁.heap = h0 := by rw [← hh, Bd.state]; rfl
  have J := body _ ⟨p, e, s, m, as.toArray, below, meth, c, rfl, Bd.exec, Bd.bytes, hml0, Bd.returns, Bd.notSynchronized, hnm, hZ, hown, hw, hS⟩ s₁ [] X0 (by rw [e0]; exact hrep) (Fr.nil n0)
  obtain ⟨t, o, st, r1, r2, v, L, r3, r4, r5⟩ := J
  exact ⟨t, o, castTop (hent m) st, r1, r2, v, L, r3, r4, r5⟩
end Body
/-! ## the local variables as a list -/
def ok1 : Option Slot → Bool
  | some .unset => true
  | some (.val (.long _)) => false
  | some (.val (.double _)) => false
  | some (.val _) => true
  | _ => false
def ok2 : Option Slot → Option Slot → Bool
  | some .unset, some .unset => true
  | some .unset, some (.val (.int _)) => true
  | some .unset, some (.val .null) => true
  | some .unset, some (.val (.ref _)) => true
  | some (.val (.int _)), some .unset => true
  | some (.val (.int _)), some (.val (.int _)) => true
  | some (.val (.int _)), some (.val .null) => true
  | some (.val (.int _)), some (.val (.ref _)) => true
  | some (.val .null), some .unset => true
  | some (.val .null), some (.val (.int _)) => true
  | some (.val .null), some (.val .null) => true
  | some (.val .null), some (.val (.ref _)) => true
  | some (.val (.ref _)), some .unset => true
  | some (.val (.ref _)), some (.val (.int _)) => true
  | some (.val (.ref _)), some (.val .null) => true
  | some (.val (.ref _)), some (.val (.ref _)) => true
  | some (.val (.long _)), some .second => true
  | _, _ => false
theorem store_one {Ls : List Slot} {i : Nat} {v : Value} (ho : ok1 Ls[i]? = true) (hv : v.category = 1) : storeLocals Ls.toArray i v = some (Ls.set i (.val v)).toArray := by
  have hlt : i < Ls.length := by
    rcases Nat.lt_or_ge i Ls.length with h | h
    · exact h
    · rw [List.getElem?_eq_none h] at ho; cases ho
  cases hq : Ls[i]? with
  | none => rw [hq] at ho; cases ho
  | some o =>
    rw [hq] at ho
    have e := XS.store1 (l := Ls.toArray) (i := i) (v := v) (o := o) (by simpa using hq) (by
      cases o with
      | unset => exact Or.inl rfl
      | second => cases ho
      | val w => exact Or.inr ⟨w, rfl, by cases w <;> first | rfl | (cases ho)⟩) hv
    rw [e]
    simp
theorem store_two {Ls : List Slot} {i : Nat} {v : Int64} (ho : ok2 Ls[i]? Ls[i + 1]? = true) : storeLocals Ls.toArray i (.long v) = some ((Ls.set i (.val (.long v))).set (i + 1) .second).toArray := by
  have hlt : i + 1 < Ls.length := by
    rcases Nat.lt_or_ge (i + 1) Ls.length with h | h
    · exact h
    · rw [List.getElem?_eq_none h] at ho
      generalize Ls[i]? = o at ho
      cases o with
      | none => cases ho
      | some o => cases o with
        | unset => cases ho
        | second => cases ho
        | val w => cases w <;> cases ho
  have hlt0 : i < Ls.length := by omega
  rw [List.getElem?_eq_getElem hlt, List.getElem?_eq_getElem hlt0] at ho
  have g0 : Ls.toArray[i]? = some Ls[i] := by simp [hlt0]
  have g1 : Ls.toArray[i + 1]? = some Ls[i + 1] := by simp [hlt]
  generalize Ls[i] = A at ho g0
  generalize Ls[i + 1] = B at ho g1
  cases A with
  | unset => cases B with
    | unset => simp_all [storeLocals, storeSelf, setAt, Value.category]
    | second => cases ho
    | val w => cases w <;> first | (cases ho; done) | simp_all [storeLocals, storeSelf, setAt, Value.category]
  | second => cases ho
  | val u => cases B with
    | unset => cases u <;> first | (cases ho; done) | simp_all [storeLocals, storeSelf, setAt, Value.category]
    | second => cases u <;> first | (cases ho; done) | (simp_all [storeLocals, storeSelf, setAt, Value.category]; rw [List.set_comm _ _ (show i + 1 ≠ i by omega), List.set_set])
    | val w => cases u <;> first | (cases ho; done) | (cases w <;> first | (cases ho; done) | simp_all [storeLocals, storeSelf, setAt, Value.category])
theorem pop2L_step {p : Program} {l : Launch} {e : Env} {R : Room} {s : State} {m : MethodId} {args : Array Value} {below : List Frame} {meth : Method} {c : Code} {T : State} {locs : List Loc} {cells slots : Nat} {pc : Nat} {Ls : Array Slot} {x : Int64} {S : List Value} {target : State}
    (X : Stand p l e R s m args below meth c T locs cells slots) (hx : p.tables.exec = Jvm.exec) (hd : decode c.code pc = .ok (.pop2, 1)) (hr : Steps p.tables e below (T.setTop (mkF m (pc + 1) Ls S)) target) : Steps p.tables e below (T.setTop (mkF m pc Ls (.long x :: S))) target := by
  jvm_step X.here [X.here.top, hx, hd, Value.category]
  exact hr
section Steps
variable {tab : List Jvm.Cond} {sig : Sig} {l : Launch} {Z : State} {a0 : Array Value} {n0 : Nat} {own nm : String} {bytes : ByteArray} {maxL : Nat} {ret : Option FieldType} {R : Room} {Q : Post} {J : JT} {pc pc' : Nat} {Ls : List Slot} {S : List Value} {G : Ghost} {k sl : Nat}
theorem Walk.iload (W : Walk tab sig l Z a0 n0 own nm bytes maxL ret R Q J) {i : Nat} {v : Int32} (hd : decode bytes pc = .ok (.iload i, 2)) (hl : Ls[i]? = some (.val (.int v))) (hr : J pc' Ls (.int v :: S) G k sl) (hp : pc + 2 = pc' := by rfl) : J pc Ls (S) G k sl := by
  obtain ⟨p, e, s, m, args, below, meth, c, rfl, hx, hby, hml, hret, hlk, hnm, hZ, hown, hw, hS⟩ := W
  subst hp
  intro T locs X hG hF
  obtain ⟨t, o, st, h⟩ := hr T locs X hG hF
  exact ⟨t, o, XS.iload X.here hx rfl (Jvm.hb hby hd) (by simpa using hl) st, h⟩
theorem Walk.iloadN (W : Walk tab sig l Z a0 n0 own nm bytes maxL ret R Q J) {i : Fin 4} {v : Int32} (hd : decode bytes pc = .ok (.iload_n i, 1)) (hl : Ls[i.val]? = some (.val (.int v))) (hr : J pc' Ls (.int v :: S) G k sl) (hp : pc + 1 = pc' := by rfl) : J pc Ls (S) G k sl := by
  obtain ⟨p, e, s, m, args, below, meth, c, rfl, hx, hby, hml, hret, hlk, hnm, hZ, hown, hw, hS⟩ := W
  subst hp
  intro T locs X hG hF
  obtain ⟨t, o, st, h⟩ := hr T locs X hG hF
  exact ⟨t, o, XS.iloadN X.here hx rfl (Jvm.hb hby hd) (by simpa using hl) st, h⟩
theorem Walk.lload (W : Walk tab sig l Z a0 n0 own nm bytes maxL ret R Q J) {i : Nat} {v : Int64} (hd : decode bytes pc = .ok (.lload i, 2)) (hl : Ls[i]? = some (.val (.long v))) (hr : J pc' Ls (.long v :: S) G k sl) (hp : pc + 2 = pc' := by rfl) : J pc Ls (S) G k sl := by
  obtain ⟨p, e, s, m, args, below, meth, c, rfl, hx, hby, hml, hret, hlk, hnm, hZ, hown, hw, hS⟩ := W
  subst hp
  intro T locs X hG hF
  obtain ⟨t, o, st, h⟩ := hr T locs X hG hF
  exact ⟨t, o, XT.lload X.here hx rfl (Jvm.hb hby hd) (by simpa using hl) st, h⟩
theorem Walk.lloadN (W : Walk tab sig l Z a0 n0 own nm bytes maxL ret R Q J) {i : Fin 4} {v : Int64} (hd : decode bytes pc = .ok (.lload_n i, 1)) (hl : Ls[i.val]? = some (.val (.long v))) (hr : J pc' Ls (.long v :: S) G k sl) (hp : pc + 1 = pc' := by rfl) : J pc Ls (S) G k sl := by
  obtain ⟨p, e, s, m, args, below, meth, c, rfl, hx, hby, hml, hret, hlk, hnm, hZ, hown, hw, hS⟩ := W
  subst hp
  intro T locs X hG hF
  obtain ⟨t, o, st, h⟩ := hr T locs X hG hF
  exact ⟨t, o, XT.lloadN X.here hx rfl (Jvm.hb hby hd) (by simpa using hl) st, h⟩
theorem Walk.aload (W : Walk tab sig l Z a0 n0 own nm bytes maxL ret R Q J) {i : Nat} {v : Value} (hd : decode bytes pc = .ok (.aload i, 2)) (hl : Ls[i]? = some (.val v)) (hv : v.isRef = true) (hr : J pc' Ls (v :: S) G k sl) (hp : pc + 2 = pc' := by rfl) : J pc Ls (S) G k sl := by
  obtain ⟨p, e, s, m, args, below, meth, c, rfl, hx, hby, hml, hret, hlk, hnm, hZ, hown, hw, hS⟩ := W
  subst hp
  intro T locs X hG hF
  obtain ⟨t, o, st, h⟩ := hr T locs X hG hF
  exact ⟨t, o, XS.aload X.here hx rfl (Jvm.hb hby hd) (by simpa using hl) hv st, h⟩
theorem Walk.aloadN (W : Walk tab sig l Z a0 n0 own nm bytes maxL ret R Q J) {i : Fin 4} {v : Value} (hd : decode bytes pc = .ok (.aload_n i, 1)) (hl : Ls[i.val]? = some (.val v)) (hv : v.isRef = true) (hr : J pc' Ls (v :: S) G k sl) (hp : pc + 1 = pc' := by rfl) : J pc Ls (S) G k sl := by
  obtain ⟨p, e, s, m, args, below, meth, c, rfl, hx, hby, hml, hret, hlk, hnm, hZ, hown, hw, hS⟩ := W
  subst hp
  intro T locs X hG hF
  obtain ⟨t, o, st, h⟩ := hr T locs X hG hF
  exact ⟨t, o, XS.aloadN X.here hx rfl (Jvm.hb hby hd) (by simpa using hl) hv st, h⟩
theorem Walk.iconst (W : Walk tab sig l Z a0 n0 own nm bytes maxL ret R Q J) {i : Int} (v : Int32) (hd : decode bytes pc = .ok (.iconst i, 1)) (hv : Int32.ofInt i = v) (hr : J pc' Ls (.int v :: S) G k sl) (hp : pc + 1 = pc' := by rfl) : J pc Ls (S) G k sl := by
  obtain ⟨p, e, s, m, args, below, meth, c, rfl, hx, hby, hml, hret, hlk, hnm, hZ, hown, hw, hS⟩ := W
  subst hp
  intro T locs X hG hF
  obtain ⟨t, o, st, h⟩ := hr T locs X hG hF
  exact ⟨t, o, XT.iconstV X.here hx rfl v (Jvm.hb hby hd) hv st, h⟩
theorem Walk.bipush (W : Walk tab sig l Z a0 n0 own nm bytes maxL ret R Q J) {i : Int} (v : Int32) (hd : decode bytes pc = .ok (.bipush i, 2)) (hv : (Int8.ofInt i).toInt32 = v) (hr : J pc' Ls (.int v :: S) G k sl) (hp : pc + 2 = pc' := by rfl) : J pc Ls (S) G k sl := by
  obtain ⟨p, e, s, m, args, below, meth, c, rfl, hx, hby, hml, hret, hlk, hnm, hZ, hown, hw, hS⟩ := W
  subst hp
  intro T locs X hG hF
  obtain ⟨t, o, st, h⟩ := hr T locs X hG hF
  exact ⟨t, o, XT.bipushV X.here hx rfl v (Jvm.hb hby hd) hv st, h⟩
theorem Walk.sipush (W : Walk tab sig l Z a0 n0 own nm bytes maxL ret R Q J) {i : Int} (v : Int32) (hd : decode bytes pc = .ok (.sipush i, 3)) (hv : (Int16.ofInt i).toInt32 = v) (hr : J pc' Ls (.int v :: S) G k sl) (hp : pc + 3 = pc' := by rfl) : J pc Ls (S) G k sl := by
  obtain ⟨p, e, s, m, args, below, meth, c, rfl, hx, hby, hml, hret, hlk, hnm, hZ, hown, hw, hS⟩ := W
  subst hp
  intro T locs X hG hF
  obtain ⟨t, o, st, h⟩ := hr T locs X hG hF
  exact ⟨t, o, XT.sipushV X.here hx rfl v (Jvm.hb hby hd) hv st, h⟩
theorem Walk.lconst (W : Walk tab sig l Z a0 n0 own nm bytes maxL ret R Q J) {i : Fin 2} (v : Int64) (hd : decode bytes pc = .ok (.lconst i, 1)) (hv : Int64.ofNat i = v) (hr : J pc' Ls (.long v :: S) G k sl) (hp : pc + 1 = pc' := by rfl) : J pc Ls (S) G k sl := by
  obtain ⟨p, e, s, m, args, below, meth, c, rfl, hx, hby, hml, hret, hlk, hnm, hZ, hown, hw, hS⟩ := W
  subst hp
  intro T locs X hG hF
  obtain ⟨t, o, st, h⟩ := hr T locs X hG hF
  exact ⟨t, o, XT.lconstV X.here hx rfl v (Jvm.hb hby hd) hv st, h⟩
theorem Walk.aconstNull (W : Walk tab sig l Z a0 n0 own nm bytes maxL ret R Q J) (hd : decode bytes pc = .ok (.aconst_null, 1)) (hr : J pc' Ls (.null :: S) G k sl) (hp : pc + 1 = pc' := by rfl) : J pc Ls (S) G k sl := by
  obtain ⟨p, e, s, m, args, below, meth, c, rfl, hx, hby, hml, hret, hlk, hnm, hZ, hown, hw, hS⟩ := W
  subst hp
  intro T locs X hG hF
  obtain ⟨t, o, st, h⟩ := hr T locs X hG hF
  exact ⟨t, o, XS.aconstNull X.here hx rfl (Jvm.hb hby hd) st, h⟩
theorem Walk.iadd (W : Walk tab sig l Z a0 n0 own nm bytes maxL ret R Q J) {x y : Int32} (hd : decode bytes pc = .ok (.iadd, 1)) (hr : J pc' Ls (.int (x + y) :: S) G k sl) (hp : pc + 1 = pc' := by rfl) : J pc Ls (.int y :: .int x :: S) G k sl := by
  obtain ⟨p, e, s, m, args, below, meth, c, rfl, hx, hby, hml, hret, hlk, hnm, hZ, hown, hw, hS⟩ := W
  subst hp
  intro T locs X hG hF
  obtain ⟨t, o, st, h⟩ := hr T locs X hG hF
  exact ⟨t, o, XS.iadd X.here hx rfl (Jvm.hb hby hd) rfl st, h⟩
theorem Walk.isub (W : Walk tab sig l Z a0 n0 own nm bytes maxL ret R Q J) {x y : Int32} (hd : decode bytes pc = .ok (.isub, 1)) (hr : J pc' Ls (.int (x - y) :: S) G k sl) (hp : pc + 1 = pc' := by rfl) : J pc Ls (.int y :: .int x :: S) G k sl := by
  obtain ⟨p, e, s, m, args, below, meth, c, rfl, hx, hby, hml, hret, hlk, hnm, hZ, hown, hw, hS⟩ := W
  subst hp
  intro T locs X hG hF
  obtain ⟨t, o, st, h⟩ := hr T locs X hG hF
  exact ⟨t, o, XS.isub X.here hx rfl (Jvm.hb hby hd) rfl st, h⟩
theorem Walk.imul (W : Walk tab sig l Z a0 n0 own nm bytes maxL ret R Q J) {x y : Int32} (hd : decode bytes pc = .ok (.imul, 1)) (hr : J pc' Ls (.int (x * y) :: S) G k sl) (hp : pc + 1 = pc' := by rfl) : J pc Ls (.int y :: .int x :: S) G k sl := by
  obtain ⟨p, e, s, m, args, below, meth, c, rfl, hx, hby, hml, hret, hlk, hnm, hZ, hown, hw, hS⟩ := W
  subst hp
  intro T locs X hG hF
  obtain ⟨t, o, st, h⟩ := hr T locs X hG hF
  exact ⟨t, o, XS.imul X.here hx rfl (Jvm.hb hby hd) rfl st, h⟩
theorem Walk.iand (W : Walk tab sig l Z a0 n0 own nm bytes maxL ret R Q J) {x y : Int32} (hd : decode bytes pc = .ok (.iand, 1)) (hr : J pc' Ls (.int (x &&& y) :: S) G k sl) (hp : pc + 1 = pc' := by rfl) : J pc Ls (.int y :: .int x :: S) G k sl := by
  obtain ⟨p, e, s, m, args, below, meth, c, rfl, hx, hby, hml, hret, hlk, hnm, hZ, hown, hw, hS⟩ := W
  subst hp
  intro T locs X hG hF
  obtain ⟨t, o, st, h⟩ := hr T locs X hG hF
  exact ⟨t, o, XS.iand X.here hx rfl (Jvm.hb hby hd) rfl st, h⟩
theorem Walk.ior (W : Walk tab sig l Z a0 n0 own nm bytes maxL ret R Q J) {x y : Int32} (hd : decode bytes pc = .ok (.ior, 1)) (hr : J pc' Ls (.int (x ||| y) :: S) G k sl) (hp : pc + 1 = pc' := by rfl) : J pc Ls (.int y :: .int x :: S) G k sl := by
  obtain ⟨p, e, s, m, args, below, meth, c, rfl, hx, hby, hml, hret, hlk, hnm, hZ, hown, hw, hS⟩ := W
  subst hp
  intro T locs X hG hF
  obtain ⟨t, o, st, h⟩ := hr T locs X hG hF
  exact ⟨t, o, XT.ior X.here hx rfl (Jvm.hb hby hd) rfl st, h⟩
theorem Walk.ixor (W : Walk tab sig l Z a0 n0 own nm bytes maxL ret R Q J) {x y : Int32} (hd : decode bytes pc = .ok (.ixor, 1)) (hr : J pc' Ls (.int (x ^^^ y) :: S) G k sl) (hp : pc + 1 = pc' := by rfl) : J pc Ls (.int y :: .int x :: S) G k sl := by
  obtain ⟨p, e, s, m, args, below, meth, c, rfl, hx, hby, hml, hret, hlk, hnm, hZ, hown, hw, hS⟩ := W
  subst hp
  intro T locs X hG hF
  obtain ⟨t, o, st, h⟩ := hr T locs X hG hF
  exact ⟨t, o, XT.ixor X.here hx rfl (Jvm.hb hby hd) rfl st, h⟩
theorem Walk.ishl (W : Walk tab sig l Z a0 n0 own nm bytes maxL ret R Q J) {x y : Int32} (hd : decode bytes pc = .ok (.ishl, 1)) (hr : J pc' Ls (.int (x <<< (y &&& 31)) :: S) G k sl) (hp : pc + 1 = pc' := by rfl) : J pc Ls (.int y :: .int x :: S) G k sl := by
  obtain ⟨p, e, s, m, args, below, meth, c, rfl, hx, hby, hml, hret, hlk, hnm, hZ, hown, hw, hS⟩ := W
  subst hp
  intro T locs X hG hF
  obtain ⟨t, o, st, h⟩ := hr T locs X hG hF
  exact ⟨t, o, XT.ishl X.here hx rfl (Jvm.hb hby hd) rfl st, h⟩
theorem Walk.ishr (W : Walk tab sig l Z a0 n0 own nm bytes maxL ret R Q J) {x y : Int32} (hd : decode bytes pc = .ok (.ishr, 1)) (hr : J pc' Ls (.int (x >>> (y &&& 31)) :: S) G k sl) (hp : pc + 1 = pc' := by rfl) : J pc Ls (.int y :: .int x :: S) G k sl := by
  obtain ⟨p, e, s, m, args, below, meth, c, rfl, hx, hby, hml, hret, hlk, hnm, hZ, hown, hw, hS⟩ := W
  subst hp
  intro T locs X hG hF
  obtain ⟨t, o, st, h⟩ := hr T locs X hG hF
  exact ⟨t, o, XT.ishr X.here hx rfl (Jvm.hb hby hd) rfl st, h⟩
theorem Walk.iushr (W : Walk tab sig l Z a0 n0 own nm bytes maxL ret R Q J) {x y : Int32} (hd : decode bytes pc = .ok (.iushr, 1)) (hr : J pc' Ls (.int (XT.ushr x y) :: S) G k sl) (hp : pc + 1 = pc' := by rfl) : J pc Ls (.int y :: .int x :: S) G k sl := by
  obtain ⟨p, e, s, m, args, below, meth, c, rfl, hx, hby, hml, hret, hlk, hnm, hZ, hown, hw, hS⟩ := W
  subst hp
  intro T locs X hG hF
  obtain ⟨t, o, st, h⟩ := hr T locs X hG hF
  exact ⟨t, o, XT.iushr X.here hx rfl (Jvm.hb hby hd) rfl st, h⟩
theorem Walk.idiv (W : Walk tab sig l Z a0 n0 own nm bytes maxL ret R Q J) {x y : Int32} (hd : decode bytes pc = .ok (.idiv, 1)) (hy : y ≠ 0) (hr : J pc' Ls (.int (x / y) :: S) G k sl) (hp : pc + 1 = pc' := by rfl) : J pc Ls (.int y :: .int x :: S) G k sl := by
  obtain ⟨p, e, s, m, args, below, meth, c, rfl, hx, hby, hml, hret, hlk, hnm, hZ, hown, hw, hS⟩ := W
  subst hp
  intro T locs X hG hF
  obtain ⟨t, o, st, h⟩ := hr T locs X hG hF
  exact ⟨t, o, XS.idiv X.here hx rfl (Jvm.hb hby hd) rfl hy st, h⟩
theorem Walk.irem (W : Walk tab sig l Z a0 n0 own nm bytes maxL ret R Q J) {x y : Int32} (hd : decode bytes pc = .ok (.irem, 1)) (hy : y ≠ 0) (hr : J pc' Ls (.int (x % y) :: S) G k sl) (hp : pc + 1 = pc' := by rfl) : J pc Ls (.int y :: .int x :: S) G k sl := by
  obtain ⟨p, e, s, m, args, below, meth, c, rfl, hx, hby, hml, hret, hlk, hnm, hZ, hown, hw, hS⟩ := W
  subst hp
  intro T locs X hG hF
  obtain ⟨t, o, st, h⟩ := hr T locs X hG hF
  exact ⟨t, o, iremM X hx rfl (Jvm.hb hby hd) rfl hy st, h⟩
theorem Walk.ineg (W : Walk tab sig l Z a0 n0 own nm bytes maxL ret R Q J) {x : Int32} (hd : decode bytes pc = .ok (.ineg, 1)) (hr : J pc' Ls (.int (-x) :: S) G k sl) (hp : pc + 1 = pc' := by rfl) : J pc Ls (.int x :: S) G k sl := by
  obtain ⟨p, e, s, m, args, below, meth, c, rfl, hx, hby, hml, hret, hlk, hnm, hZ, hown, hw, hS⟩ := W
  subst hp
  intro T locs X hG hF
  obtain ⟨t, o, st, h⟩ := hr T locs X hG hF
  exact ⟨t, o, XS.ineg X.here hx rfl (Jvm.hb hby hd) rfl st, h⟩
theorem Walk.ladd (W : Walk tab sig l Z a0 n0 own nm bytes maxL ret R Q J) {x y : Int64} (hd : decode bytes pc = .ok (.ladd, 1)) (hr : J pc' Ls (.long (x + y) :: S) G k sl) (hp : pc + 1 = pc' := by rfl) : J pc Ls (.long y :: .long x :: S) G k sl := by
  obtain ⟨p, e, s, m, args, below, meth, c, rfl, hx, hby, hml, hret, hlk, hnm, hZ, hown, hw, hS⟩ := W
  subst hp
  intro T locs X hG hF
  obtain ⟨t, o, st, h⟩ := hr T locs X hG hF
  exact ⟨t, o, XT.ladd X.here hx rfl (Jvm.hb hby hd) rfl st, h⟩
theorem Walk.lsub (W : Walk tab sig l Z a0 n0 own nm bytes maxL ret R Q J) {x y : Int64} (hd : decode bytes pc = .ok (.lsub, 1)) (hr : J pc' Ls (.long (x - y) :: S) G k sl) (hp : pc + 1 = pc' := by rfl) : J pc Ls (.long y :: .long x :: S) G k sl := by
  obtain ⟨p, e, s, m, args, below, meth, c, rfl, hx, hby, hml, hret, hlk, hnm, hZ, hown, hw, hS⟩ := W
  subst hp
  intro T locs X hG hF
  obtain ⟨t, o, st, h⟩ := hr T locs X hG hF
  exact ⟨t, o, XT.lsub X.here hx rfl (Jvm.hb hby hd) rfl st, h⟩
theorem Walk.lmul (W : Walk tab sig l Z a0 n0 own nm bytes maxL ret R Q J) {x y : Int64} (hd : decode bytes pc = .ok (.lmul, 1)) (hr : J pc' Ls (.long (x * y) :: S) G k sl) (hp : pc + 1 = pc' := by rfl) : J pc Ls (.long y :: .long x :: S) G k sl := by
  obtain ⟨p, e, s, m, args, below, meth, c, rfl, hx, hby, hml, hret, hlk, hnm, hZ, hown, hw, hS⟩ := W
  subst hp
  intro T locs X hG hF
  obtain ⟨t, o, st, h⟩ := hr T locs X hG hF
  exact ⟨t, o, XT.lmul X.here hx rfl (Jvm.hb hby hd) rfl st, h⟩
theorem Walk.land (W : Walk tab sig l Z a0 n0 own nm bytes maxL ret R Q J) {x y : Int64} (hd : decode bytes pc = .ok (.land, 1)) (hr : J pc' Ls (.long (x &&& y) :: S) G k sl) (hp : pc + 1 = pc' := by rfl) : J pc Ls (.long y :: .long x :: S) G k sl := by
  obtain ⟨p, e, s, m, args, below, meth, c, rfl, hx, hby, hml, hret, hlk, hnm, hZ, hown, hw, hS⟩ := W
  subst hp
  intro T locs X hG hF
  obtain ⟨t, o, st, h⟩ := hr T locs X hG hF
  exact ⟨t, o, XT.land X.here hx rfl (Jvm.hb hby hd) rfl st, h⟩
theorem Walk.lor (W : Walk tab sig l Z a0 n0 own nm bytes maxL ret R Q J) {x y : Int64} (hd : decode bytes pc = .ok (.lor, 1)) (hr : J pc' Ls (.long (x ||| y) :: S) G k sl) (hp : pc + 1 = pc' := by rfl) : J pc Ls (.long y :: .long x :: S) G k sl := by
  obtain ⟨p, e, s, m, args, below, meth, c, rfl, hx, hby, hml, hret, hlk, hnm, hZ, hown, hw, hS⟩ := W
  subst hp
  intro T locs X hG hF
  obtain ⟨t, o, st, h⟩ := hr T locs X hG hF
  exact ⟨t, o, XT.lor X.here hx rfl (Jvm.hb hby hd) rfl st, h⟩
theorem Walk.lxor (W : Walk tab sig l Z a0 n0 own nm bytes maxL ret R Q J) {x y : Int64} (hd : decode bytes pc = .ok (.lxor, 1)) (hr : J pc' Ls (.long (x ^^^ y) :: S) G k sl) (hp : pc + 1 = pc' := by rfl) : J pc Ls (.long y :: .long x :: S) G k sl := by
  obtain ⟨p, e, s, m, args, below, meth, c, rfl, hx, hby, hml, hret, hlk, hnm, hZ, hown, hw, hS⟩ := W
  subst hp
  intro T locs X hG hF
  obtain ⟨t, o, st, h⟩ := hr T locs X hG hF
  exact ⟨t, o, XT.lxor X.here hx rfl (Jvm.hb hby hd) rfl st, h⟩
theorem Walk.lshl (W : Walk tab sig l Z a0 n0 own nm bytes maxL ret R Q J) {x : Int64} {y : Int32} (hd : decode bytes pc = .ok (.lshl, 1)) (hr : J pc' Ls (.long (x <<< (y.toInt64 &&& 63)) :: S) G k sl) (hp : pc + 1 = pc' := by rfl) : J pc Ls (.int y :: .long x :: S) G k sl := by
  obtain ⟨p, e, s, m, args, below, meth, c, rfl, hx, hby, hml, hret, hlk, hnm, hZ, hown, hw, hS⟩ := W
  subst hp
  intro T locs X hG hF
  obtain ⟨t, o, st, h⟩ := hr T locs X hG hF
  exact ⟨t, o, XT.lshl X.here hx rfl (Jvm.hb hby hd) rfl st, h⟩
theorem Walk.lshr (W : Walk tab sig l Z a0 n0 own nm bytes maxL ret R Q J) {x : Int64} {y : Int32} (hd : decode bytes pc = .ok (.lshr, 1)) (hr : J pc' Ls (.long (x >>> (y.toInt64 &&& 63)) :: S) G k sl) (hp : pc + 1 = pc' := by rfl) : J pc Ls (.int y :: .long x :: S) G k sl := by
  obtain ⟨p, e, s, m, args, below, meth, c, rfl, hx, hby, hml, hret, hlk, hnm, hZ, hown, hw, hS⟩ := W
  subst hp
  intro T locs X hG hF
  obtain ⟨t, o, st, h⟩ := hr T locs X hG hF
  exact ⟨t, o, XT.lshr X.here hx rfl (Jvm.hb hby hd) rfl st, h⟩
theorem Walk.lushr (W : Walk tab sig l Z a0 n0 own nm bytes maxL ret R Q J) {x : Int64} {y : Int32} (hd : decode bytes pc = .ok (.lushr, 1)) (hr : J pc' Ls (.long (XT.ushrL x y) :: S) G k sl) (hp : pc + 1 = pc' := by rfl) : J pc Ls (.int y :: .long x :: S) G k sl := by
  obtain ⟨p, e, s, m, args, below, meth, c, rfl, hx, hby, hml, hret, hlk, hnm, hZ, hown, hw, hS⟩ := W
  subst hp
  intro T locs X hG hF
  obtain ⟨t, o, st, h⟩ := hr T locs X hG hF
  exact ⟨t, o, XT.lushr X.here hx rfl (Jvm.hb hby hd) rfl st, h⟩
theorem Walk.ldiv (W : Walk tab sig l Z a0 n0 own nm bytes maxL ret R Q J) {x y : Int64} (hd : decode bytes pc = .ok (.ldiv, 1)) (hy : y ≠ 0) (hr : J pc' Ls (.long (x / y) :: S) G k sl) (hp : pc + 1 = pc' := by rfl) : J pc Ls (.long y :: .long x :: S) G k sl := by
  obtain ⟨p, e, s, m, args, below, meth, c, rfl, hx, hby, hml, hret, hlk, hnm, hZ, hown, hw, hS⟩ := W
  subst hp
  intro T locs X hG hF
  obtain ⟨t, o, st, h⟩ := hr T locs X hG hF
  exact ⟨t, o, XT.ldiv X.here hx rfl (Jvm.hb hby hd) rfl hy st, h⟩
theorem Walk.lrem (W : Walk tab sig l Z a0 n0 own nm bytes maxL ret R Q J) {x y : Int64} (hd : decode bytes pc = .ok (.lrem, 1)) (hy : y ≠ 0) (hr : J pc' Ls (.long (x - (x / y) * y) :: S) G k sl) (hp : pc + 1 = pc' := by rfl) : J pc Ls (.long y :: .long x :: S) G k sl := by
  obtain ⟨p, e, s, m, args, below, meth, c, rfl, hx, hby, hml, hret, hlk, hnm, hZ, hown, hw, hS⟩ := W
  subst hp
  intro T locs X hG hF
  obtain ⟨t, o, st, h⟩ := hr T locs X hG hF
  exact ⟨t, o, XT.lrem X.here hx rfl (Jvm.hb hby hd) rfl hy st, h⟩
theorem Walk.i2l (W : Walk tab sig l Z a0 n0 own nm bytes maxL ret R Q J) {x : Int32} (hd : decode bytes pc = .ok (.i2l, 1)) (hr : J pc' Ls (.long x.toInt64 :: S) G k sl) (hp : pc + 1 = pc' := by rfl) : J pc Ls (.int x :: S) G k sl := by
  obtain ⟨p, e, s, m, args, below, meth, c, rfl, hx, hby, hml, hret, hlk, hnm, hZ, hown, hw, hS⟩ := W
  subst hp
  intro T locs X hG hF
  obtain ⟨t, o, st, h⟩ := hr T locs X hG hF
  exact ⟨t, o, XT.i2l X.here hx rfl (Jvm.hb hby hd) rfl st, h⟩
theorem Walk.l2i (W : Walk tab sig l Z a0 n0 own nm bytes maxL ret R Q J) {x : Int64} (hd : decode bytes pc = .ok (.l2i, 1)) (hr : J pc' Ls (.int x.toInt32 :: S) G k sl) (hp : pc + 1 = pc' := by rfl) : J pc Ls (.long x :: S) G k sl := by
  obtain ⟨p, e, s, m, args, below, meth, c, rfl, hx, hby, hml, hret, hlk, hnm, hZ, hown, hw, hS⟩ := W
  subst hp
  intro T locs X hG hF
  obtain ⟨t, o, st, h⟩ := hr T locs X hG hF
  exact ⟨t, o, XT.l2i X.here hx rfl (Jvm.hb hby hd) rfl st, h⟩
theorem Walk.i2b (W : Walk tab sig l Z a0 n0 own nm bytes maxL ret R Q J) {x : Int32} (hd : decode bytes pc = .ok (.i2b, 1)) (hr : J pc' Ls (.int x.toInt8.toInt32 :: S) G k sl) (hp : pc + 1 = pc' := by rfl) : J pc Ls (.int x :: S) G k sl := by
  obtain ⟨p, e, s, m, args, below, meth, c, rfl, hx, hby, hml, hret, hlk, hnm, hZ, hown, hw, hS⟩ := W
  subst hp
  intro T locs X hG hF
  obtain ⟨t, o, st, h⟩ := hr T locs X hG hF
  exact ⟨t, o, XT.i2b X.here hx rfl (Jvm.hb hby hd) rfl st, h⟩
theorem Walk.lcmp (W : Walk tab sig l Z a0 n0 own nm bytes maxL ret R Q J) {x y : Int64} (hd : decode bytes pc = .ok (.lcmp, 1)) (hr : J pc' Ls (.int (XT.cmpL x y) :: S) G k sl) (hp : pc + 1 = pc' := by rfl) : J pc Ls (.long y :: .long x :: S) G k sl := by
  obtain ⟨p, e, s, m, args, below, meth, c, rfl, hx, hby, hml, hret, hlk, hnm, hZ, hown, hw, hS⟩ := W
  subst hp
  intro T locs X hG hF
  obtain ⟨t, o, st, h⟩ := hr T locs X hG hF
  exact ⟨t, o, XT.lcmp X.here hx rfl (Jvm.hb hby hd) rfl st, h⟩
theorem Walk.dup (W : Walk tab sig l Z a0 n0 own nm bytes maxL ret R Q J) {x : Value} (hd : decode bytes pc = .ok (.dup, 1)) (hc : x.category = 1) (hr : J pc' Ls (x :: x :: S) G k sl) (hp : pc + 1 = pc' := by rfl) : J pc Ls (x :: S) G k sl := by
  obtain ⟨p, e, s, m, args, below, meth, c, rfl, hx, hby, hml, hret, hlk, hnm, hZ, hown, hw, hS⟩ := W
  subst hp
  intro T locs X hG hF
  obtain ⟨t, o, st, h⟩ := hr T locs X hG hF
  exact ⟨t, o, XS.dup X.here hx rfl (Jvm.hb hby hd) rfl hc st, h⟩
theorem Walk.pop (W : Walk tab sig l Z a0 n0 own nm bytes maxL ret R Q J) {x : Value} (hd : decode bytes pc = .ok (.pop, 1)) (hc : x.category = 1) (hr : J pc' Ls (S) G k sl) (hp : pc + 1 = pc' := by rfl) : J pc Ls (x :: S) G k sl := by
  obtain ⟨p, e, s, m, args, below, meth, c, rfl, hx, hby, hml, hret, hlk, hnm, hZ, hown, hw, hS⟩ := W
  subst hp
  intro T locs X hG hF
  obtain ⟨t, o, st, h⟩ := hr T locs X hG hF
  exact ⟨t, o, XT.pop X.here hx rfl (Jvm.hb hby hd) rfl hc st, h⟩
theorem Walk.dupX1 (W : Walk tab sig l Z a0 n0 own nm bytes maxL ret R Q J) {x y : Value} (hd : decode bytes pc = .ok (.dup_x1, 1)) (hc : x.category = 1) (hc' : y.category = 1) (hr : J pc' Ls (x :: y :: x :: S) G k sl) (hp : pc + 1 = pc' := by rfl) : J pc Ls (x :: y :: S) G k sl := by
  obtain ⟨p, e, s, m, args, below, meth, c, rfl, hx, hby, hml, hret, hlk, hnm, hZ, hown, hw, hS⟩ := W
  subst hp
  intro T locs X hG hF
  obtain ⟨t, o, st, h⟩ := hr T locs X hG hF
  exact ⟨t, o, XT.dupX1 X.here hx rfl (Jvm.hb hby hd) rfl hc hc' st, h⟩
theorem Walk.dup2 (W : Walk tab sig l Z a0 n0 own nm bytes maxL ret R Q J) {x y : Value} (hd : decode bytes pc = .ok (.dup2, 1)) (hc : x.category = 1) (hc' : y.category = 1) (hr : J pc' Ls (x :: y :: x :: y :: S) G k sl) (hp : pc + 1 = pc' := by rfl) : J pc Ls (x :: y :: S) G k sl := by
  obtain ⟨p, e, s, m, args, below, meth, c, rfl, hx, hby, hml, hret, hlk, hnm, hZ, hown, hw, hS⟩ := W
  subst hp
  intro T locs X hG hF
  obtain ⟨t, o, st, h⟩ := hr T locs X hG hF
  exact ⟨t, o, XT.dup2 X.here hx rfl (Jvm.hb hby hd) rfl hc hc' st, h⟩
theorem Walk.dup2L (W : Walk tab sig l Z a0 n0 own nm bytes maxL ret R Q J) {x : Int64} (hd : decode bytes pc = .ok (.dup2, 1)) (hr : J pc' Ls (.long x :: .long x :: S) G k sl) (hp : pc + 1 = pc' := by rfl) : J pc Ls (.long x :: S) G k sl := by
  obtain ⟨p, e, s, m, args, below, meth, c, rfl, hx, hby, hml, hret, hlk, hnm, hZ, hown, hw, hS⟩ := W
  subst hp
  intro T locs X hG hF
  obtain ⟨t, o, st, h⟩ := hr T locs X hG hF
  exact ⟨t, o, XT.dup2L X.here hx rfl (Jvm.hb hby hd) rfl st, h⟩
theorem Walk.pop2L (W : Walk tab sig l Z a0 n0 own nm bytes maxL ret R Q J) {x : Int64} (hd : decode bytes pc = .ok (.pop2, 1)) (hr : J pc' Ls (S) G k sl) (hp : pc + 1 = pc' := by rfl) : J pc Ls (.long x :: S) G k sl := by
  obtain ⟨p, e, s, m, args, below, meth, c, rfl, hx, hby, hml, hret, hlk, hnm, hZ, hown, hw, hS⟩ := W
  subst hp
  intro T locs X hG hF
  obtain ⟨t, o, st, h⟩ := hr T locs X hG hF
  exact ⟨t, o, pop2L_step X hx (Jvm.hb hby hd) st, h⟩
theorem Walk.istore (W : Walk tab sig l Z a0 n0 own nm bytes maxL ret R Q J) {i : Nat} {x : Int32} (hd : decode bytes pc = .ok (.istore i, 2)) (ho : ok1 Ls[i]? = true) (hr : J pc' (Ls.set i (.val (.int x))) (S) G k sl) (hp : pc + 2 = pc' := by rfl) : J pc Ls (.int x :: S) G k sl := by
  obtain ⟨p, e, s, m, args, below, meth, c, rfl, hx, hby, hml, hret, hlk, hnm, hZ, hown, hw, hS⟩ := W
  subst hp
  intro T locs X hG hF
  obtain ⟨t, o, st, h⟩ := hr T locs X hG hF
  exact ⟨t, o, XS.istore X.here hx rfl (Jvm.hb hby hd) rfl (store_one ho rfl) st, h⟩
theorem Walk.istoreN (W : Walk tab sig l Z a0 n0 own nm bytes maxL ret R Q J) {i : Fin 4} {i' : Nat} {x : Int32} (hd : decode bytes pc = .ok (.istore_n i, 1)) (ho : ok1 Ls[i']? = true) (hr : J pc' (Ls.set i' (.val (.int x))) (S) G k sl) (hp : pc + 1 = pc' := by rfl) (hi : i.val = i' := by rfl) : J pc Ls (.int x :: S) G k sl := by
  obtain ⟨p, e, s, m, args, below, meth, c, rfl, hx, hby, hml, hret, hlk, hnm, hZ, hown, hw, hS⟩ := W
  subst hp
  intro T locs X hG hF
  obtain ⟨t, o, st, h⟩ := hr T locs X hG hF
  exact ⟨t, o, by subst hi; exact XS.istoreN X.here hx rfl (Jvm.hb hby hd) rfl (store_one ho rfl) st, h⟩
theorem Walk.astore (W : Walk tab sig l Z a0 n0 own nm bytes maxL ret R Q J) {i : Nat} {x : Value} (hd : decode bytes pc = .ok (.astore i, 2)) (hv : x.isRef = true) (ho : ok1 Ls[i]? = true) (hr : J pc' (Ls.set i (.val x)) (S) G k sl) (hp : pc + 2 = pc' := by rfl) : J pc Ls (x :: S) G k sl := by
  obtain ⟨p, e, s, m, args, below, meth, c, rfl, hx, hby, hml, hret, hlk, hnm, hZ, hown, hw, hS⟩ := W
  subst hp
  intro T locs X hG hF
  obtain ⟨t, o, st, h⟩ := hr T locs X hG hF
  exact ⟨t, o, XS.astore X.here hx rfl (Jvm.hb hby hd) rfl hv (store_one ho (XT.cat1 hv)) st, h⟩
theorem Walk.astoreN (W : Walk tab sig l Z a0 n0 own nm bytes maxL ret R Q J) {i : Fin 4} {i' : Nat} {x : Value} (hd : decode bytes pc = .ok (.astore_n i, 1)) (hv : x.isRef = true) (ho : ok1 Ls[i']? = true) (hr : J pc' (Ls.set i' (.val x)) (S) G k sl) (hp : pc + 1 = pc' := by rfl) (hi : i.val = i' := by rfl) : J pc Ls (x :: S) G k sl := by
  obtain ⟨p, e, s, m, args, below, meth, c, rfl, hx, hby, hml, hret, hlk, hnm, hZ, hown, hw, hS⟩ := W
  subst hp
  intro T locs X hG hF
  obtain ⟨t, o, st, h⟩ := hr T locs X hG hF
  exact ⟨t, o, by subst hi; exact XS.astoreN X.here hx rfl (Jvm.hb hby hd) rfl hv (store_one ho (XT.cat1 hv)) st, h⟩
theorem Walk.lstore (W : Walk tab sig l Z a0 n0 own nm bytes maxL ret R Q J) {i : Nat} {x : Int64} (hd : decode bytes pc = .ok (.lstore i, 2)) (ho : ok2 Ls[i]? Ls[i + 1]? = true) (hr : J pc' ((Ls.set i (.val (.long x))).set (i + 1) .second) (S) G k sl) (hp : pc + 2 = pc' := by rfl) : J pc Ls (.long x :: S) G k sl := by
  obtain ⟨p, e, s, m, args, below, meth, c, rfl, hx, hby, hml, hret, hlk, hnm, hZ, hown, hw, hS⟩ := W
  subst hp
  intro T locs X hG hF
  obtain ⟨t, o, st, h⟩ := hr T locs X hG hF
  exact ⟨t, o, XT.lstore X.here hx rfl (Jvm.hb hby hd) rfl (store_two ho) st, h⟩
theorem Walk.lstoreN (W : Walk tab sig l Z a0 n0 own nm bytes maxL ret R Q J) {i : Fin 4} {i' : Nat} {x : Int64} (hd : decode bytes pc = .ok (.lstore_n i, 1)) (ho : ok2 Ls[i']? Ls[i' + 1]? = true) (hr : J pc' ((Ls.set i' (.val (.long x))).set (i' + 1) .second) (S) G k sl) (hp : pc + 1 = pc' := by rfl) (hi : i.val = i' := by rfl) : J pc Ls (.long x :: S) G k sl := by
  obtain ⟨p, e, s, m, args, below, meth, c, rfl, hx, hby, hml, hret, hlk, hnm, hZ, hown, hw, hS⟩ := W
  subst hp
  intro T locs X hG hF
  obtain ⟨t, o, st, h⟩ := hr T locs X hG hF
  exact ⟨t, o, by subst hi; exact XT.lstoreN X.here hx rfl (Jvm.hb hby hd) rfl (store_two ho) st, h⟩
theorem Walk.iinc (W : Walk tab sig l Z a0 n0 own nm bytes maxL ret R Q J) {i : Nat} {cst : Int} (v : Int32) {x : Int32} (hd : decode bytes pc = .ok (.iinc i cst, 3)) (hv : Int32.ofInt cst = v) (hl : Ls[i]? = some (.val (.int x))) (hr : J pc' (Ls.set i (.val (.int (x + v)))) (S) G k sl) (hp : pc + 3 = pc' := by rfl) : J pc Ls (S) G k sl := by
  obtain ⟨p, e, s, m, args, below, meth, c, rfl, hx, hby, hml, hret, hlk, hnm, hZ, hown, hw, hS⟩ := W
  subst hp
  intro T locs X hG hF
  obtain ⟨t, o, st, h⟩ := hr T locs X hG hF
  exact ⟨t, o, XT.iincV X.here hx rfl v (Jvm.hb hby hd) hv (by simpa using hl) (store_one (by rw [hl]; rfl) rfl) st, h⟩
theorem Walk.ldcI (W : Walk tab sig l Z a0 n0 own nm bytes maxL ret R Q J) {i : Nat} {v : Int32} (hd : decode bytes pc = .ok (.ldc i, 2)) (hc : Jvm.Cond.constant own i v ∈ tab) (hr : J pc' Ls (.int v :: S) G k sl) (hp : pc + 2 = pc' := by rfl) : J pc Ls (S) G k sl := by
  obtain ⟨p, e, s, m, args, below, meth, c, rfl, hx, hby, hml, hret, hlk, hnm, hZ, hown, hw, hS⟩ := W
  subst hp
  intro T locs X hG hF
  obtain ⟨t, o, st, h⟩ := hr T locs X hG hF
  exact ⟨t, o, X.ldcInt hx hown (mvT hZ (hw _ hc)) (g := mkF m pc Ls.toArray S) rfl (Jvm.hb hby hd) _ st, h⟩
theorem Walk.ldcwI (W : Walk tab sig l Z a0 n0 own nm bytes maxL ret R Q J) {i : Nat} {v : Int32} (hd : decode bytes pc = .ok (.ldc_w i, 3)) (hc : Jvm.Cond.constant own i v ∈ tab) (hr : J pc' Ls (.int v :: S) G k sl) (hp : pc + 3 = pc' := by rfl) : J pc Ls (S) G k sl := by
  obtain ⟨p, e, s, m, args, below, meth, c, rfl, hx, hby, hml, hret, hlk, hnm, hZ, hown, hw, hS⟩ := W
  subst hp
  intro T locs X hG hF
  obtain ⟨t, o, st, h⟩ := hr T locs X hG hF
  exact ⟨t, o, X.ldcwInt hx hown (mvT hZ (hw _ hc)) (g := mkF m pc Ls.toArray S) rfl (Jvm.hb hby hd) _ st, h⟩
theorem Walk.ldc2J (W : Walk tab sig l Z a0 n0 own nm bytes maxL ret R Q J) {i : Nat} {v : Int64} (hd : decode bytes pc = .ok (.ldc2_w i, 3)) (hc : Jvm.Cond.constantLong own i v ∈ tab) (hr : J pc' Ls (.long v :: S) G k sl) (hp : pc + 3 = pc' := by rfl) : J pc Ls (S) G k sl := by
  obtain ⟨p, e, s, m, args, below, meth, c, rfl, hx, hby, hml, hret, hlk, hnm, hZ, hown, hw, hS⟩ := W
  subst hp
  intro T locs X hG hF
  obtain ⟨t, o, st, h⟩ := hr T locs X hG hF
  exact ⟨t, o, X.ldc2Long hx hown (mvT hZ (hw _ hc)) (g := mkF m pc Ls.toArray S) rfl (Jvm.hb hby hd) _ st, h⟩
theorem Walk.goto (W : Walk tab sig l Z a0 n0 own nm bytes maxL ret R Q J) {o : Int} (hd : decode bytes pc = .ok (.goto o, 3)) (hr : J pc' Ls S G k sl) (ho : 0 ≤ (pc : Int) + o := by decide) (hp : ((pc : Int) + o).toNat = pc' := by decide) : J pc Ls S G k sl := by
  obtain ⟨p, e, s, m, args, below, meth, c, rfl, hx, hby, hml, hret, hlk, hnm, hZ, hown, hw, hS⟩ := W
  intro T locs X hG hF
  obtain ⟨t, o, st, h⟩ := hr T locs X hG hF
  exact ⟨t, o, XS.goto X.here hx rfl rfl (Jvm.hb hby hd) ho hp st, h⟩
theorem Walk.if_eq (W : Walk tab sig l Z a0 n0 own nm bytes maxL ret R Q J) {x : Int32} {o : Int} {pc2 : Nat} (hd : decode bytes pc = .ok (.ifCond .eq o, 3)) (hT : (x = 0) → J pc' Ls S G k sl) (hF' : ¬ (x = 0) → J pc2 Ls S G k sl) (ho : 0 ≤ (pc : Int) + o := by decide) (hp : ((pc : Int) + o).toNat = pc' := by decide) (hp2 : pc + 3 = pc2 := by rfl) : J pc Ls (.int x :: S) G k sl := by
  obtain ⟨p, e, s, m, args, below, meth, c, rfl, hx, hby, hml, hret, hlk, hnm, hZ, hown, hw, hS⟩ := W
  subst hp2
  intro T locs X hG hF
  by_cases q : (x = 0)
  · obtain ⟨t, o, st, h⟩ := hT q T locs X hG hF
    exact ⟨t, o, XS.ifYes X.here hx rfl rfl (Jvm.hb hby hd) rfl (XT.i0_eq_t q) ho hp st, h⟩
  · obtain ⟨t, o, st, h⟩ := hF' q T locs X hG hF
    exact ⟨t, o, XS.ifNo X.here hx rfl (Jvm.hb hby hd) rfl (XT.i0_eq_f q) st, h⟩
theorem Walk.icmp_eq (W : Walk tab sig l Z a0 n0 own nm bytes maxL ret R Q J) {x y : Int32} {o : Int} {pc2 : Nat} (hd : decode bytes pc = .ok (.if_icmp .eq o, 3)) (hT : (x = y) → J pc' Ls S G k sl) (hF' : ¬ (x = y) → J pc2 Ls S G k sl) (ho : 0 ≤ (pc : Int) + o := by decide) (hp : ((pc : Int) + o).toNat = pc' := by decide) (hp2 : pc + 3 = pc2 := by rfl) : J pc Ls (.int y :: .int x :: S) G k sl := by
  obtain ⟨p, e, s, m, args, below, meth, c, rfl, hx, hby, hml, hret, hlk, hnm, hZ, hown, hw, hS⟩ := W
  subst hp2
  intro T locs X hG hF
  by_cases q : (x = y)
  · obtain ⟨t, o, st, h⟩ := hT q T locs X hG hF
    exact ⟨t, o, XS.icmpYes X.here hx rfl rfl (Jvm.hb hby hd) rfl (XT.ii_eq_t q) ho hp st, h⟩
  · obtain ⟨t, o, st, h⟩ := hF' q T locs X hG hF
    exact ⟨t, o, XS.icmpNo X.here hx rfl (Jvm.hb hby hd) rfl (XT.ii_eq_f q) st, h⟩
theorem Walk.ifl_eq (W : Walk tab sig l Z a0 n0 own nm bytes maxL ret R Q J) {x y : Int64} {o : Int} {pc2 : Nat} (hd : decode bytes pc = .ok (.ifCond .eq o, 3)) (hT : (x = y) → J pc' Ls S G k sl) (hF' : ¬ (x = y) → J pc2 Ls S G k sl) (ho : 0 ≤ (pc : Int) + o := by decide) (hp : ((pc : Int) + o).toNat = pc' := by decide) (hp2 : pc + 3 = pc2 := by rfl) : J pc Ls (.int (XT.cmpL x y) :: S) G k sl := by
  obtain ⟨p, e, s, m, args, below, meth, c, rfl, hx, hby, hml, hret, hlk, hnm, hZ, hown, hw, hS⟩ := W
  subst hp2
  intro T locs X hG hF
  by_cases q : (x = y)
  · obtain ⟨t, o, st, h⟩ := hT q T locs X hG hF
    exact ⟨t, o, XS.ifYes X.here hx rfl rfl (Jvm.hb hby hd) rfl (XT.ll_eq_t q) ho hp st, h⟩
  · obtain ⟨t, o, st, h⟩ := hF' q T locs X hG hF
    exact ⟨t, o, XS.ifNo X.here hx rfl (Jvm.hb hby hd) rfl (XT.ll_eq_f q) st, h⟩
theorem Walk.if_ne (W : Walk tab sig l Z a0 n0 own nm bytes maxL ret R Q J) {x : Int32} {o : Int} {pc2 : Nat} (hd : decode bytes pc = .ok (.ifCond .ne o, 3)) (hT : (x = 0) → J pc2 Ls S G k sl) (hF' : ¬ (x = 0) → J pc' Ls S G k sl) (ho : 0 ≤ (pc : Int) + o := by decide) (hp : ((pc : Int) + o).toNat = pc' := by decide) (hp2 : pc + 3 = pc2 := by rfl) : J pc Ls (.int x :: S) G k sl := by
  obtain ⟨p, e, s, m, args, below, meth, c, rfl, hx, hby, hml, hret, hlk, hnm, hZ, hown, hw, hS⟩ := W
  subst hp2
  intro T locs X hG hF
  by_cases q : (x = 0)
  · obtain ⟨t, o, st, h⟩ := hT q T locs X hG hF
    exact ⟨t, o, XS.ifNo X.here hx rfl (Jvm.hb hby hd) rfl (XT.i0_ne_f q) st, h⟩
  · obtain ⟨t, o, st, h⟩ := hF' q T locs X hG hF
    exact ⟨t, o, XS.ifYes X.here hx rfl rfl (Jvm.hb hby hd) rfl (XT.i0_ne_t q) ho hp st, h⟩
theorem Walk.icmp_ne (W : Walk tab sig l Z a0 n0 own nm bytes maxL ret R Q J) {x y : Int32} {o : Int} {pc2 : Nat} (hd : decode bytes pc = .ok (.if_icmp .ne o, 3)) (hT : (x = y) → J pc2 Ls S G k sl) (hF' : ¬ (x = y) → J pc' Ls S G k sl) (ho : 0 ≤ (pc : Int) + o := by decide) (hp : ((pc : Int) + o).toNat = pc' := by decide) (hp2 : pc + 3 = pc2 := by rfl) : J pc Ls (.int y :: .int x :: S) G k sl := by
  obtain ⟨p, e, s, m, args, below, meth, c, rfl, hx, hby, hml, hret, hlk, hnm, hZ, hown, hw, hS⟩ := W
  subst hp2
  intro T locs X hG hF
  by_cases q : (x = y)
  · obtain ⟨t, o, st, h⟩ := hT q T locs X hG hF
    exact ⟨t, o, XS.icmpNo X.here hx rfl (Jvm.hb hby hd) rfl (XT.ii_ne_f q) st, h⟩
  · obtain ⟨t, o, st, h⟩ := hF' q T locs X hG hF
    exact ⟨t, o, XS.icmpYes X.here hx rfl rfl (Jvm.hb hby hd) rfl (XT.ii_ne_t q) ho hp st, h⟩
theorem Walk.ifl_ne (W : Walk tab sig l Z a0 n0 own nm bytes maxL ret R Q J) {x y : Int64} {o : Int} {pc2 : Nat} (hd : decode bytes pc = .ok (.ifCond .ne o, 3)) (hT : (x = y) → J pc2 Ls S G k sl) (hF' : ¬ (x = y) → J pc' Ls S G k sl) (ho : 0 ≤ (pc : Int) + o := by decide) (hp : ((pc : Int) + o).toNat = pc' := by decide) (hp2 : pc + 3 = pc2 := by rfl) : J pc Ls (.int (XT.cmpL x y) :: S) G k sl := by
  obtain ⟨p, e, s, m, args, below, meth, c, rfl, hx, hby, hml, hret, hlk, hnm, hZ, hown, hw, hS⟩ := W
  subst hp2
  intro T locs X hG hF
  by_cases q : (x = y)
  · obtain ⟨t, o, st, h⟩ := hT q T locs X hG hF
    exact ⟨t, o, XS.ifNo X.here hx rfl (Jvm.hb hby hd) rfl (XT.ll_ne_f q) st, h⟩
  · obtain ⟨t, o, st, h⟩ := hF' q T locs X hG hF
    exact ⟨t, o, XS.ifYes X.here hx rfl rfl (Jvm.hb hby hd) rfl (XT.ll_ne_t q) ho hp st, h⟩
theorem Walk.if_lt (W : Walk tab sig l Z a0 n0 own nm bytes maxL ret R Q J) {x : Int32} {o : Int} {pc2 : Nat} (hd : decode bytes pc = .ok (.ifCond .lt o, 3)) (hT : (x < 0) → J pc' Ls S G k sl) (hF' : ¬ (x < 0) → J pc2 Ls S G k sl) (ho : 0 ≤ (pc : Int) + o := by decide) (hp : ((pc : Int) + o).toNat = pc' := by decide) (hp2 : pc + 3 = pc2 := by rfl) : J pc Ls (.int x :: S) G k sl := by
  obtain ⟨p, e, s, m, args, below, meth, c, rfl, hx, hby, hml, hret, hlk, hnm, hZ, hown, hw, hS⟩ := W
  subst hp2
  intro T locs X hG hF
  by_cases q : (x < 0)
  · obtain ⟨t, o, st, h⟩ := hT q T locs X hG hF
    exact ⟨t, o, XS.ifYes X.here hx rfl rfl (Jvm.hb hby hd) rfl (XT.i0_lt_t q) ho hp st, h⟩
  · obtain ⟨t, o, st, h⟩ := hF' q T locs X hG hF
    exact ⟨t, o, XS.ifNo X.here hx rfl (Jvm.hb hby hd) rfl (XT.i0_lt_f q) st, h⟩
theorem Walk.icmp_lt (W : Walk tab sig l Z a0 n0 own nm bytes maxL ret R Q J) {x y : Int32} {o : Int} {pc2 : Nat} (hd : decode bytes pc = .ok (.if_icmp .lt o, 3)) (hT : (x < y) → J pc' Ls S G k sl) (hF' : ¬ (x < y) → J pc2 Ls S G k sl) (ho : 0 ≤ (pc : Int) + o := by decide) (hp : ((pc : Int) + o).toNat = pc' := by decide) (hp2 : pc + 3 = pc2 := by rfl) : J pc Ls (.int y :: .int x :: S) G k sl := by
  obtain ⟨p, e, s, m, args, below, meth, c, rfl, hx, hby, hml, hret, hlk, hnm, hZ, hown, hw, hS⟩ := W
  subst hp2
  intro T locs X hG hF
  by_cases q : (x < y)
  · obtain ⟨t, o, st, h⟩ := hT q T locs X hG hF
    exact ⟨t, o, XS.icmpYes X.here hx rfl rfl (Jvm.hb hby hd) rfl (XT.ii_lt_t q) ho hp st, h⟩
  · obtain ⟨t, o, st, h⟩ := hF' q T locs X hG hF
    exact ⟨t, o, XS.icmpNo X.here hx rfl (Jvm.hb hby hd) rfl (XT.ii_lt_f q) st, h⟩
theorem Walk.ifl_lt (W : Walk tab sig l Z a0 n0 own nm bytes maxL ret R Q J) {x y : Int64} {o : Int} {pc2 : Nat} (hd : decode bytes pc = .ok (.ifCond .lt o, 3)) (hT : (x < y) → J pc' Ls S G k sl) (hF' : ¬ (x < y) → J pc2 Ls S G k sl) (ho : 0 ≤ (pc : Int) + o := by decide) (hp : ((pc : Int) + o).toNat = pc' := by decide) (hp2 : pc + 3 = pc2 := by rfl) : J pc Ls (.int (XT.cmpL x y) :: S) G k sl := by
  obtain ⟨p, e, s, m, args, below, meth, c, rfl, hx, hby, hml, hret, hlk, hnm, hZ, hown, hw, hS⟩ := W
  subst hp2
  intro T locs X hG hF
  by_cases q : (x < y)
  · obtain ⟨t, o, st, h⟩ := hT q T locs X hG hF
    exact ⟨t, o, XS.ifYes X.here hx rfl rfl (Jvm.hb hby hd) rfl (XT.ll_lt_t q) ho hp st, h⟩
  · obtain ⟨t, o, st, h⟩ := hF' q T locs X hG hF
    exact ⟨t, o, XS.ifNo X.here hx rfl (Jvm.hb hby hd) rfl (XT.ll_lt_f q) st, h⟩
theorem Walk.if_ge (W : Walk tab sig l Z a0 n0 own nm bytes maxL ret R Q J) {x : Int32} {o : Int} {pc2 : Nat} (hd : decode bytes pc = .ok (.ifCond .ge o, 3)) (hT : (x < 0) → J pc2 Ls S G k sl) (hF' : ¬ (x < 0) → J pc' Ls S G k sl) (ho : 0 ≤ (pc : Int) + o := by decide) (hp : ((pc : Int) + o).toNat = pc' := by decide) (hp2 : pc + 3 = pc2 := by rfl) : J pc Ls (.int x :: S) G k sl := by
  obtain ⟨p, e, s, m, args, below, meth, c, rfl, hx, hby, hml, hret, hlk, hnm, hZ, hown, hw, hS⟩ := W
  subst hp2
  intro T locs X hG hF
  by_cases q : (x < 0)
  · obtain ⟨t, o, st, h⟩ := hT q T locs X hG hF
    exact ⟨t, o, XS.ifNo X.here hx rfl (Jvm.hb hby hd) rfl (XT.i0_ge_f q) st, h⟩
  · obtain ⟨t, o, st, h⟩ := hF' q T locs X hG hF
    exact ⟨t, o, XS.ifYes X.here hx rfl rfl (Jvm.hb hby hd) rfl (XT.i0_ge_t q) ho hp st, h⟩
theorem Walk.icmp_ge (W : Walk tab sig l Z a0 n0 own nm bytes maxL ret R Q J) {x y : Int32} {o : Int} {pc2 : Nat} (hd : decode bytes pc = .ok (.if_icmp .ge o, 3)) (hT : (x < y) → J pc2 Ls S G k sl) (hF' : ¬ (x < y) → J pc' Ls S G k sl) (ho : 0 ≤ (pc : Int) + o := by decide) (hp : ((pc : Int) + o).toNat = pc' := by decide) (hp2 : pc + 3 = pc2 := by rfl) : J pc Ls (.int y :: .int x :: S) G k sl := by
  obtain ⟨p, e, s, m, args, below, meth, c, rfl, hx, hby, hml, hret, hlk, hnm, hZ, hown, hw, hS⟩ := W
  subst hp2
  intro T locs X hG hF
  by_cases q : (x < y)
  · obtain ⟨t, o, st, h⟩ := hT q T locs X hG hF
    exact ⟨t, o, XS.icmpNo X.here hx rfl (Jvm.hb hby hd) rfl (XT.ii_ge_f q) st, h⟩
  · obtain ⟨t, o, st, h⟩ := hF' q T locs X hG hF
    exact ⟨t, o, XS.icmpYes X.here hx rfl rfl (Jvm.hb hby hd) rfl (XT.ii_ge_t q) ho hp st, h⟩
theorem Walk.ifl_ge (W : Walk tab sig l Z a0 n0 own nm bytes maxL ret R Q J) {x y : Int64} {o : Int} {pc2 : Nat} (hd : decode bytes pc = .ok (.ifCond .ge o, 3)) (hT : (x < y) → J pc2 Ls S G k sl) (hF' : ¬ (x < y) → J pc' Ls S G k sl) (ho : 0 ≤ (pc : Int) + o := by decide) (hp : ((pc : Int) + o).toNat = pc' := by decide) (hp2 : pc + 3 = pc2 := by rfl) : J pc Ls (.int (XT.cmpL x y) :: S) G k sl := by
  obtain ⟨p, e, s, m, args, below, meth, c, rfl, hx, hby, hml, hret, hlk, hnm, hZ, hown, hw, hS⟩ := W
  subst hp2
  intro T locs X hG hF
  by_cases q : (x < y)
  · obtain ⟨t, o, st, h⟩ := hT q T locs X hG hF
    exact ⟨t, o, XS.ifNo X.here hx rfl (Jvm.hb hby hd) rfl (XT.ll_ge_f q) st, h⟩
  · obtain ⟨t, o, st, h⟩ := hF' q T locs X hG hF
    exact ⟨t, o, XS.ifYes X.here hx rfl rfl (Jvm.hb hby hd) rfl (XT.ll_ge_t q) ho hp st, h⟩
theorem Walk.if_gt (W : Walk tab sig l Z a0 n0 own nm bytes maxL ret R Q J) {x : Int32} {o : Int} {pc2 : Nat} (hd : decode bytes pc = .ok (.ifCond .gt o, 3)) (hT : (0 < x) → J pc' Ls S G k sl) (hF' : ¬ (0 < x) → J pc2 Ls S G k sl) (ho : 0 ≤ (pc : Int) + o := by decide) (hp : ((pc : Int) + o).toNat = pc' := by decide) (hp2 : pc + 3 = pc2 := by rfl) : J pc Ls (.int x :: S) G k sl := by
  obtain ⟨p, e, s, m, args, below, meth, c, rfl, hx, hby, hml, hret, hlk, hnm, hZ, hown, hw, hS⟩ := W
  subst hp2
  intro T locs X hG hF
  by_cases q : (0 < x)
  · obtain ⟨t, o, st, h⟩ := hT q T locs X hG hF
    exact ⟨t, o, XS.ifYes X.here hx rfl rfl (Jvm.hb hby hd) rfl (XT.i0_gt_t q) ho hp st, h⟩
  · obtain ⟨t, o, st, h⟩ := hF' q T locs X hG hF
    exact ⟨t, o, XS.ifNo X.here hx rfl (Jvm.hb hby hd) rfl (XT.i0_gt_f q) st, h⟩
theorem Walk.icmp_gt (W : Walk tab sig l Z a0 n0 own nm bytes maxL ret R Q J) {x y : Int32} {o : Int} {pc2 : Nat} (hd : decode bytes pc = .ok (.if_icmp .gt o, 3)) (hT : (y < x) → J pc' Ls S G k sl) (hF' : ¬ (y < x) → J pc2 Ls S G k sl) (ho : 0 ≤ (pc : Int) + o := by decide) (hp : ((pc : Int) + o).toNat = pc' := by decide) (hp2 : pc + 3 = pc2 := by rfl) : J pc Ls (.int y :: .int x :: S) G k sl := by
  obtain ⟨p, e, s, m, args, below, meth, c, rfl, hx, hby, hml, hret, hlk, hnm, hZ, hown, hw, hS⟩ := W
  subst hp2
  intro T locs X hG hF
  by_cases q : (y < x)
  · obtain ⟨t, o, st, h⟩ := hT q T locs X hG hF
    exact ⟨t, o, XS.icmpYes X.here hx rfl rfl (Jvm.hb hby hd) rfl (XT.ii_gt_t q) ho hp st, h⟩
  · obtain ⟨t, o, st, h⟩ := hF' q T locs X hG hF
    exact ⟨t, o, XS.icmpNo X.here hx rfl (Jvm.hb hby hd) rfl (XT.ii_gt_f q) st, h⟩
theorem Walk.ifl_gt (W : Walk tab sig l Z a0 n0 own nm bytes maxL ret R Q J) {x y : Int64} {o : Int} {pc2 : Nat} (hd : decode bytes pc = .ok (.ifCond .gt o, 3)) (hT : (y < x) → J pc' Ls S G k sl) (hF' : ¬ (y < x) → J pc2 Ls S G k sl) (ho : 0 ≤ (pc : Int) + o := by decide) (hp : ((pc : Int) + o).toNat = pc' := by decide) (hp2 : pc + 3 = pc2 := by rfl) : J pc Ls (.int (XT.cmpL x y) :: S) G k sl := by
  obtain ⟨p, e, s, m, args, below, meth, c, rfl, hx, hby, hml, hret, hlk, hnm, hZ, hown, hw, hS⟩ := W
  subst hp2
  intro T locs X hG hF
  by_cases q : (y < x)
  · obtain ⟨t, o, st, h⟩ := hT q T locs X hG hF
    exact ⟨t, o, XS.ifYes X.here hx rfl rfl (Jvm.hb hby hd) rfl (XT.ll_gt_t q) ho hp st, h⟩
  · obtain ⟨t, o, st, h⟩ := hF' q T locs X hG hF
    exact ⟨t, o, XS.ifNo X.here hx rfl (Jvm.hb hby hd) rfl (XT.ll_gt_f q) st, h⟩
theorem Walk.if_le (W : Walk tab sig l Z a0 n0 own nm bytes maxL ret R Q J) {x : Int32} {o : Int} {pc2 : Nat} (hd : decode bytes pc = .ok (.ifCond .le o, 3)) (hT : (0 < x) → J pc2 Ls S G k sl) (hF' : ¬ (0 < x) → J pc' Ls S G k sl) (ho : 0 ≤ (pc : Int) + o := by decide) (hp : ((pc : Int) + o).toNat = pc' := by decide) (hp2 : pc + 3 = pc2 := by rfl) : J pc Ls (.int x :: S) G k sl := by
  obtain ⟨p, e, s, m, args, below, meth, c, rfl, hx, hby, hml, hret, hlk, hnm, hZ, hown, hw, hS⟩ := W
  subst hp2
  intro T locs X hG hF
  by_cases q : (0 < x)
  · obtain ⟨t, o, st, h⟩ := hT q T locs X hG hF
    exact ⟨t, o, XS.ifNo X.here hx rfl (Jvm.hb hby hd) rfl (XT.i0_le_f q) st, h⟩
  · obtain ⟨t, o, st, h⟩ := hF' q T locs X hG hF
    exact ⟨t, o, XS.ifYes X.here hx rfl rfl (Jvm.hb hby hd) rfl (XT.i0_le_t q) ho hp st, h⟩
theorem Walk.icmp_le (W : Walk tab sig l Z a0 n0 own nm bytes maxL ret R Q J) {x y : Int32} {o : Int} {pc2 : Nat} (hd : decode bytes pc = .ok (.if_icmp .le o, 3)) (hT : (y < x) → J pc2 Ls S G k sl) (hF' : ¬ (y < x) → J pc' Ls S G k sl) (ho : 0 ≤ (pc : Int) + o := by decide) (hp : ((pc : Int) + o).toNat = pc' := by decide) (hp2 : pc + 3 = pc2 := by rfl) : J pc Ls (.int y :: .int x :: S) G k sl := by
  obtain ⟨p, e, s, m, args, below, meth, c, rfl, hx, hby, hml, hret, hlk, hnm, hZ, hown, hw, hS⟩ := W
  subst hp2
  intro T locs X hG hF
  by_cases q : (y < x)
  · obtain ⟨t, o, st, h⟩ := hT q T locs X hG hF
    exact ⟨t, o, XS.icmpNo X.here hx rfl (Jvm.hb hby hd) rfl (XT.ii_le_f q) st, h⟩
  · obtain ⟨t, o, st, h⟩ := hF' q T locs X hG hF
    exact ⟨t, o, XS.icmpYes X.here hx rfl rfl (Jvm.hb hby hd) rfl (XT.ii_le_t q) ho hp st, h⟩
theorem Walk.ifl_le (W : Walk tab sig l Z a0 n0 own nm bytes maxL ret R Q J) {x y : Int64} {o : Int} {pc2 : Nat} (hd : decode bytes pc = .ok (.ifCond .le o, 3)) (hT : (y < x) → J pc2 Ls S G k sl) (hF' : ¬ (y < x) → J pc' Ls S G k sl) (ho : 0 ≤ (pc : Int) + o := by decide) (hp : ((pc : Int) + o).toNat = pc' := by decide) (hp2 : pc + 3 = pc2 := by rfl) : J pc Ls (.int (XT.cmpL x y) :: S) G k sl := by
  obtain ⟨p, e, s, m, args, below, meth, c, rfl, hx, hby, hml, hret, hlk, hnm, hZ, hown, hw, hS⟩ := W
  subst hp2
  intro T locs X hG hF
  by_cases q : (y < x)
  · obtain ⟨t, o, st, h⟩ := hT q T locs X hG hF
    exact ⟨t, o, XS.ifNo X.here hx rfl (Jvm.hb hby hd) rfl (XT.ll_le_f q) st, h⟩
  · obtain ⟨t, o, st, h⟩ := hF' q T locs X hG hF
    exact ⟨t, o, XS.ifYes X.here hx rfl rfl (Jvm.hb hby hd) rfl (XT.ll_le_t q) ho hp st, h⟩
theorem Walk.ifnull_t (W : Walk tab sig l Z a0 n0 own nm bytes maxL ret R Q J)  {o : Int} (hd : decode bytes pc = .ok (.ifnull o, 3)) (hr : J pc' Ls S G k sl) (ho : 0 ≤ (pc : Int) + o := by decide) (hp : ((pc : Int) + o).toNat = pc' := by decide) : J pc Ls (.null :: S) G k sl := by
  obtain ⟨p, e, s, m, args, below, meth, c, rfl, hx, hby, hml, hret, hlk, hnm, hZ, hown, hw, hS⟩ := W
  intro T locs X hG hF
  obtain ⟨t, o, st, h⟩ := hr T locs X hG hF
  exact ⟨t, o, XS.ifnullYes X.here hx rfl rfl (Jvm.hb hby hd) rfl ho hp st, h⟩
theorem Walk.ifnull_f (W : Walk tab sig l Z a0 n0 own nm bytes maxL ret R Q J) {a : Addr} {o : Int} (hd : decode bytes pc = .ok (.ifnull o, 3)) (hr : J pc' Ls S G k sl) (hp : pc + 3 = pc' := by rfl) : J pc Ls (.ref a :: S) G k sl := by
  obtain ⟨p, e, s, m, args, below, meth, c, rfl, hx, hby, hml, hret, hlk, hnm, hZ, hown, hw, hS⟩ := W
  subst hp
  intro T locs X hG hF
  obtain ⟨t, o, st, h⟩ := hr T locs X hG hF
  exact ⟨t, o, XS.ifnullNo X.here hx rfl (Jvm.hb hby hd) rfl st, h⟩
theorem Walk.ifnonnull_t (W : Walk tab sig l Z a0 n0 own nm bytes maxL ret R Q J) {a : Addr} {o : Int} (hd : decode bytes pc = .ok (.ifnonnull o, 3)) (hr : J pc' Ls S G k sl) (ho : 0 ≤ (pc : Int) + o := by decide) (hp : ((pc : Int) + o).toNat = pc' := by decide) : J pc Ls (.ref a :: S) G k sl := by
  obtain ⟨p, e, s, m, args, below, meth, c, rfl, hx, hby, hml, hret, hlk, hnm, hZ, hown, hw, hS⟩ := W
  intro T locs X hG hF
  obtain ⟨t, o, st, h⟩ := hr T locs X hG hF
  exact ⟨t, o, XT.ifnonnullYes X.here hx rfl rfl (Jvm.hb hby hd) rfl ho hp st, h⟩
theorem Walk.ifnonnull_f (W : Walk tab sig l Z a0 n0 own nm bytes maxL ret R Q J)  {o : Int} (hd : decode bytes pc = .ok (.ifnonnull o, 3)) (hr : J pc' Ls S G k sl) (hp : pc + 3 = pc' := by rfl) : J pc Ls (.null :: S) G k sl := by
  obtain ⟨p, e, s, m, args, below, meth, c, rfl, hx, hby, hml, hret, hlk, hnm, hZ, hown, hw, hS⟩ := W
  subst hp
  intro T locs X hG hF
  obtain ⟨t, o, st, h⟩ := hr T locs X hG hF
  exact ⟨t, o, XT.ifnonnullNo X.here hx rfl (Jvm.hb hby hd) rfl st, h⟩
theorem Walk.acmp_eq_t (W : Walk tab sig l Z a0 n0 own nm bytes maxL ret R Q J) {x y : Value} {o : Int} (hd : decode bytes pc = .ok (.if_acmp .eq o, 3)) (h1 : x.isRef = true) (h2 : y.isRef = true) (q : x = y) (hr : J pc' Ls S G k sl) (ho : 0 ≤ (pc : Int) + o := by decide) (hp : ((pc : Int) + o).toNat = pc' := by decide) : J pc Ls (y :: x :: S) G k sl := by
  obtain ⟨p, e, s, m, args, below, meth, c, rfl, hx, hby, hml, hret, hlk, hnm, hZ, hown, hw, hS⟩ := W
  intro T locs X hG hF
  obtain ⟨t, o, st, h⟩ := hr T locs X hG hF
  exact ⟨t, o, XT.acmpYes X.here hx rfl rfl (Jvm.hb hby hd) rfl h1 h2 (XT.aa_eq_t q) ho hp st, h⟩
theorem Walk.acmp_eq_f (W : Walk tab sig l Z a0 n0 own nm bytes maxL ret R Q J) {x y : Value} {o : Int} (hd : decode bytes pc = .ok (.if_acmp .eq o, 3)) (h1 : x.isRef = true) (h2 : y.isRef = true) (q : ¬ x = y) (hr : J pc' Ls S G k sl) (hp : pc + 3 = pc' := by rfl) : J pc Ls (y :: x :: S) G k sl := by
  obtain ⟨p, e, s, m, args, below, meth, c, rfl, hx, hby, hml, hret, hlk, hnm, hZ, hown, hw, hS⟩ := W
  subst hp
  intro T locs X hG hF
  obtain ⟨t, o, st, h⟩ := hr T locs X hG hF
  exact ⟨t, o, XT.acmpNo X.here hx rfl (Jvm.hb hby hd) rfl h1 h2 (XT.aa_eq_f q) st, h⟩
theorem Walk.acmp_ne_t (W : Walk tab sig l Z a0 n0 own nm bytes maxL ret R Q J) {x y : Value} {o : Int} (hd : decode bytes pc = .ok (.if_acmp .ne o, 3)) (h1 : x.isRef = true) (h2 : y.isRef = true) (q : ¬ x = y) (hr : J pc' Ls S G k sl) (ho : 0 ≤ (pc : Int) + o := by decide) (hp : ((pc : Int) + o).toNat = pc' := by decide) : J pc Ls (y :: x :: S) G k sl := by
  obtain ⟨p, e, s, m, args, below, meth, c, rfl, hx, hby, hml, hret, hlk, hnm, hZ, hown, hw, hS⟩ := W
  intro T locs X hG hF
  obtain ⟨t, o, st, h⟩ := hr T locs X hG hF
  exact ⟨t, o, XT.acmpYes X.here hx rfl rfl (Jvm.hb hby hd) rfl h1 h2 (XT.aa_ne_t q) ho hp st, h⟩
theorem Walk.acmp_ne_f (W : Walk tab sig l Z a0 n0 own nm bytes maxL ret R Q J) {x y : Value} {o : Int} (hd : decode bytes pc = .ok (.if_acmp .ne o, 3)) (h1 : x.isRef = true) (h2 : y.isRef = true) (q : x = y) (hr : J pc' Ls S G k sl) (hp : pc + 3 = pc' := by rfl) : J pc Ls (y :: x :: S) G k sl := by
  obtain ⟨p, e, s, m, args, below, meth, c, rfl, hx, hby, hml, hret, hlk, hnm, hZ, hown, hw, hS⟩ := W
  subst hp
  intro T locs X hG hF
  obtain ⟨t, o, st, h⟩ := hr T locs X hG hF
  exact ⟨t, o, XT.acmpNo X.here hx rfl (Jvm.hb hby hd) rfl h1 h2 (XT.aa_ne_f q) st, h⟩
theorem Walk.dia_if_eq (W : Walk tab sig l Z a0 n0 own nm bytes maxL ret R Q J) {x : Int32} {o i1 o2 i3 : Int} {pc2 pe : Nat} (va vb : Int32) (hd : decode bytes pc = .ok (.ifCond .eq o, 3)) (h1 : decode bytes pc2 = .ok (.iconst i1, 1)) (h2 : decode bytes (pc2 + 1) = .ok (.goto o2, 3)) (h3 : decode bytes pc' = .ok (.iconst i3, 1)) (e1 : Int32.ofInt i1 = va) (e3 : Int32.ofInt i3 = vb)
    (hr : J pe Ls (.int (if (x = 0) then vb else va) :: S) G k sl) (ho : 0 ≤ (pc : Int) + o := by decide) (hp : ((pc : Int) + o).toNat = pc' := by decide) (hp2 : pc + 3 = pc2 := by rfl) (ho2 : 0 ≤ ((pc2 + 1 : Nat) : Int) + o2 := by decide) (hp3 : (((pc2 + 1 : Nat) : Int) + o2).toNat = pe := by decide) (hp4 : pc' + 1 = pe := by rfl) : J pc Ls (.int x :: S) G k sl := by
  refine W.if_eq (pc' := pc') (pc2 := pc2) hd (fun q => ?_) (fun q => ?_) ho hp hp2
  · rw [if_pos q] at hr
    exact W.iconst vb h3 e3 hr hp4
  · rw [if_neg q] at hr
    exact W.iconst va h1 e1 (W.goto h2 hr ho2 hp3) rfl
theorem Walk.dia_icmp_eq (W : Walk tab sig l Z a0 n0 own nm bytes maxL ret R Q J) {x y : Int32} {o i1 o2 i3 : Int} {pc2 pe : Nat} (va vb : Int32) (hd : decode bytes pc = .ok (.if_icmp .eq o, 3)) (h1 : decode bytes pc2 = .ok (.iconst i1, 1)) (h2 : decode bytes (pc2 + 1) = .ok (.goto o2, 3)) (h3 : decode bytes pc' = .ok (.iconst i3, 1)) (e1 : Int32.ofInt i1 = va) (e3 : Int32.ofInt i3 = vb)
    (hr : J pe Ls (.int (if (x = y) then vb else va) :: S) G k sl) (ho : 0 ≤ (pc : Int) + o := by decide) (hp : ((pc : Int) + o).toNat = pc' := by decide) (hp2 : pc + 3 = pc2 := by rfl) (ho2 : 0 ≤ ((pc2 + 1 : Nat) : Int) + o2 := by decide) (hp3 : (((pc2 + 1 : Nat) : Int) + o2).toNat = pe := by decide) (hp4 : pc' + 1 = pe := by rfl) : J pc Ls (.int y :: .int x :: S) G k sl := by
  refine W.icmp_eq (pc' := pc') (pc2 := pc2) hd (fun q => ?_) (fun q => ?_) ho hp hp2
  · rw [if_pos q] at hr
    exact W.iconst vb h3 e3 hr hp4
  · rw [if_neg q] at hr
    exact W.iconst va h1 e1 (W.goto h2 hr ho2 hp3) rfl
theorem Walk.dia_ifl_eq (W : Walk tab sig l Z a0 n0 own nm bytes maxL ret R Q J) {x y : Int64} {o i1 o2 i3 : Int} {pc2 pe : Nat} (va vb : Int32) (hd : decode bytes pc = .ok (.ifCond .eq o, 3)) (h1 : decode bytes pc2 = .ok (.iconst i1, 1)) (h2 : decode bytes (pc2 + 1) = .ok (.goto o2, 3)) (h3 : decode bytes pc' = .ok (.iconst i3, 1)) (e1 : Int32.ofInt i1 = va) (e3 : Int32.ofInt i3 = vb)
    (hr : J pe Ls (.int (if (x = y) then vb else va) :: S) G k sl) (ho : 0 ≤ (pc : Int) + o := by decide) (hp : ((pc : Int) + o).toNat = pc' := by decide) (hp2 : pc + 3 = pc2 := by rfl) (ho2 : 0 ≤ ((pc2 + 1 : Nat) : Int) + o2 := by decide) (hp3 : (((pc2 + 1 : Nat) : Int) + o2).toNat = pe := by decide) (hp4 : pc' + 1 = pe := by rfl) : J pc Ls (.int (XT.cmpL x y) :: S) G k sl := by
  refine W.ifl_eq (pc' := pc') (pc2 := pc2) hd (fun q => ?_) (fun q => ?_) ho hp hp2
  · rw [if_pos q] at hr
    exact W.iconst vb h3 e3 hr hp4
  · rw [if_neg q] at hr
    exact W.iconst va h1 e1 (W.goto h2 hr ho2 hp3) rfl
theorem Walk.dia_if_ne (W : Walk tab sig l Z a0 n0 own nm bytes maxL ret R Q J) {x : Int32} {o i1 o2 i3 : Int} {pc2 pe : Nat} (va vb : Int32) (hd : decode bytes pc = .ok (.ifCond .ne o, 3)) (h1 : decode bytes pc2 = .ok (.iconst i1, 1)) (h2 : decode bytes (pc2 + 1) = .ok (.goto o2, 3)) (h3 : decode bytes pc' = .ok (.iconst i3, 1)) (e1 : Int32.ofInt i1 = va) (e3 : Int32.ofInt i3 = vb)
    (hr : J pe Ls (.int (if (x = 0) then va else vb) :: S) G k sl) (ho : 0 ≤ (pc : Int) + o := by decide) (hp : ((pc : Int) + o).toNat = pc' := by decide) (hp2 : pc + 3 = pc2 := by rfl) (ho2 : 0 ≤ ((pc2 + 1 : Nat) : Int) + o2 := by decide) (hp3 : (((pc2 + 1 : Nat) : Int) + o2).toNat = pe := by decide) (hp4 : pc' + 1 = pe := by rfl) : J pc Ls (.int x :: S) G k sl := by
  refine W.if_ne (pc' := pc') (pc2 := pc2) hd (fun q => ?_) (fun q => ?_) ho hp hp2
  · rw [if_pos q] at hr
    exact W.iconst va h1 e1 (W.goto h2 hr ho2 hp3) rfl
  · rw [if_neg q] at hr
    exact W.iconst vb h3 e3 hr hp4
theorem Walk.dia_icmp_ne (W : Walk tab sig l Z a0 n0 own nm bytes maxL ret R Q J) {x y : Int32} {o i1 o2 i3 : Int} {pc2 pe : Nat} (va vb : Int32) (hd : decode bytes pc = .ok (.if_icmp .ne o, 3)) (h1 : decode bytes pc2 = .ok (.iconst i1, 1)) (h2 : decode bytes (pc2 + 1) = .ok (.goto o2, 3)) (h3 : decode bytes pc' = .ok (.iconst i3, 1)) (e1 : Int32.ofInt i1 = va) (e3 : Int32.ofInt i3 = vb)
    (hr : J pe Ls (.int (if (x = y) then va else vb) :: S) G k sl) (ho : 0 ≤ (pc : Int) + o := by decide) (hp : ((pc : Int) + o).toNat = pc' := by decide) (hp2 : pc + 3 = pc2 := by rfl) (ho2 : 0 ≤ ((pc2 + 1 : Nat) : Int) + o2 := by decide) (hp3 : (((pc2 + 1 : Nat) : Int) + o2).toNat = pe := by decide) (hp4 : pc' + 1 = pe := by rfl) : J pc Ls (.int y :: .int x :: S) G k sl := by
  refine W.icmp_ne (pc' := pc') (pc2 := pc2) hd (fun q => ?_) (fun q => ?_) ho hp hp2
  · rw [if_pos q] at hr
    exact W.iconst va h1 e1 (W.goto h2 hr ho2 hp3) rfl
  · rw [if_neg q] at hr
    exact W.iconst vb h3 e3 hr hp4
theorem Walk.dia_ifl_ne (W : Walk tab sig l Z a0 n0 own nm bytes maxL ret R Q J) {x y : Int64} {o i1 o2 i3 : Int} {pc2 pe : Nat} (va vb : Int32) (hd : decode bytes pc = .ok (.ifCond .ne o, 3)) (h1 : decode bytes pc2 = .ok (.iconst i1, 1)) (h2 : decode bytes (pc2 + 1) = .ok (.goto o2, 3)) (h3 : decode bytes pc' = .ok (.iconst i3, 1)) (e1 : Int32.ofInt i1 = va) (e3 : Int32.ofInt i3 = vb)
    (hr : J pe Ls (.int (if (x = y) then va else vb) :: S) G k sl) (ho : 0 ≤ (pc : Int) + o := by decide) (hp : ((pc : Int) + o).toNat = pc' := by decide) (hp2 : pc + 3 = pc2 := by rfl) (ho2 : 0 ≤ ((pc2 + 1 : Nat) : Int) + o2 := by decide) (hp3 : (((pc2 + 1 : Nat) : Int) + o2).toNat = pe := by decide) (hp4 : pc' + 1 = pe := by rfl) : J pc Ls (.int (XT.cmpL x y) :: S) G k sl := by
  refine W.ifl_ne (pc' := pc') (pc2 := pc2) hd (fun q => ?_) (fun q => ?_) ho hp hp2
  · rw [if_pos q] at hr
    exact W.iconst va h1 e1 (W.goto h2 hr ho2 hp3) rfl
  · rw [if_neg q] at hr
    exact W.iconst vb h3 e3 hr hp4
theorem Walk.dia_if_lt (W : Walk tab sig l Z a0 n0 own nm bytes maxL ret R Q J) {x : Int32} {o i1 o2 i3 : Int} {pc2 pe : Nat} (va vb : Int32) (hd : decode bytes pc = .ok (.ifCond .lt o, 3)) (h1 : decode bytes pc2 = .ok (.iconst i1, 1)) (h2 : decode bytes (pc2 + 1) = .ok (.goto o2, 3)) (h3 : decode bytes pc' = .ok (.iconst i3, 1)) (e1 : Int32.ofInt i1 = va) (e3 : Int32.ofInt i3 = vb)
    (hr : J pe Ls (.int (if (x < 0) then vb else va) :: S) G k sl) (ho : 0 ≤ (pc : Int) + o := by decide) (hp : ((pc : Int) + o).toNat = pc' := by decide) (hp2 : pc + 3 = pc2 := by rfl) (ho2 : 0 ≤ ((pc2 + 1 : Nat) : Int) + o2 := by decide) (hp3 : (((pc2 + 1 : Nat) : Int) + o2).toNat = pe := by decide) (hp4 : pc' + 1 = pe := by rfl) : J pc Ls (.int x :: S) G k sl := by
  refine W.if_lt (pc' := pc') (pc2 := pc2) hd (fun q => ?_) (fun q => ?_) ho hp hp2
  · rw [if_pos q] at hr
    exact W.iconst vb h3 e3 hr hp4
  · rw [if_neg q] at hr
    exact W.iconst va h1 e1 (W.goto h2 hr ho2 hp3) rfl
theorem Walk.dia_icmp_lt (W : Walk tab sig l Z a0 n0 own nm bytes maxL ret R Q J) {x y : Int32} {o i1 o2 i3 : Int} {pc2 pe : Nat} (va vb : Int32) (hd : decode bytes pc = .ok (.if_icmp .lt o, 3)) (h1 : decode bytes pc2 = .ok (.iconst i1, 1)) (h2 : decode bytes (pc2 + 1) = .ok (.goto o2, 3)) (h3 : decode bytes pc' = .ok (.iconst i3, 1)) (e1 : Int32.ofInt i1 = va) (e3 : Int32.ofInt i3 = vb)
    (hr : J pe Ls (.int (if (x < y) then vb else va) :: S) G k sl) (ho : 0 ≤ (pc : Int) + o := by decide) (hp : ((pc : Int) + o).toNat = pc' := by decide) (hp2 : pc + 3 = pc2 := by rfl) (ho2 : 0 ≤ ((pc2 + 1 : Nat) : Int) + o2 := by decide) (hp3 : (((pc2 + 1 : Nat) : Int) + o2).toNat = pe := by decide) (hp4 : pc' + 1 = pe := by rfl) : J pc Ls (.int y :: .int x :: S) G k sl := by
  refine W.icmp_lt (pc' := pc') (pc2 := pc2) hd (fun q => ?_) (fun q => ?_) ho hp hp2
  · rw [if_pos q] at hr
    exact W.iconst vb h3 e3 hr hp4
  · rw [if_neg q] at hr
    exact W.iconst va h1 e1 (W.goto h2 hr ho2 hp3) rfl
theorem Walk.dia_ifl_lt (W : Walk tab sig l Z a0 n0 own nm bytes maxL ret R Q J) {x y : Int64} {o i1 o2 i3 : Int} {pc2 pe : Nat} (va vb : Int32) (hd : decode bytes pc = .ok (.ifCond .lt o, 3)) (h1 : decode bytes pc2 = .ok (.iconst i1, 1)) (h2 : decode bytes (pc2 + 1) = .ok (.goto o2, 3)) (h3 : decode bytes pc' = .ok (.iconst i3, 1)) (e1 : Int32.ofInt i1 = va) (e3 : Int32.ofInt i3 = vb)
    (hr : J pe Ls (.int (if (x < y) then vb else va) :: S) G k sl) (ho : 0 ≤ (pc : Int) + o := by decide) (hp : ((pc : Int) + o).toNat = pc' := by decide) (hp2 : pc + 3 = pc2 := by rfl) (ho2 : 0 ≤ ((pc2 + 1 : Nat) : Int) + o2 := by decide) (hp3 : (((pc2 + 1 : Nat) : Int) + o2).toNat = pe := by decide) (hp4 : pc' + 1 = pe := by rfl) : J pc Ls (.int (XT.cmpL x y) :: S) G k sl := by
  refine W.ifl_lt (pc' := pc') (pc2 := pc2) hd (fun q => ?_) (fun q => ?_) ho hp hp2
  · rw [if_pos q] at hr
    exact W.iconst vb h3 e3 hr hp4
  · rw [if_neg q] at hr
    exact W.iconst va h1 e1 (W.goto h2 hr ho2 hp3) rfl
theorem Walk.dia_if_ge (W : Walk tab sig l Z a0 n0 own nm bytes maxL ret R Q J) {x : Int32} {o i1 o2 i3 : Int} {pc2 pe : Nat} (va vb : Int32) (hd : decode bytes pc = .ok (.ifCond .ge o, 3)) (h1 : decode bytes pc2 = .ok (.iconst i1, 1)) (h2 : decode bytes (pc2 + 1) = .ok (.goto o2, 3)) (h3 : decode bytes pc' = .ok (.iconst i3, 1)) (e1 : Int32.ofInt i1 = va) (e3 : Int32.ofInt i3 = vb)
    (hr : J pe Ls (.int (if (x < 0) then va else vb) :: S) G k sl) (ho : 0 ≤ (pc : Int) + o := by decide) (hp : ((pc : Int) + o).toNat = pc' := by decide) (hp2 : pc + 3 = pc2 := by rfl) (ho2 : 0 ≤ ((pc2 + 1 : Nat) : Int) + o2 := by decide) (hp3 : (((pc2 + 1 : Nat) : Int) + o2).toNat = pe := by decide) (hp4 : pc' + 1 = pe := by rfl) : J pc Ls (.int x :: S) G k sl := by
  refine W.if_ge (pc' := pc') (pc2 := pc2) hd (fun q => ?_) (fun q => ?_) ho hp hp2
  · rw [if_pos q] at hr
    exact W.iconst va h1 e1 (W.goto h2 hr ho2 hp3) rfl
  · rw [if_neg q] at hr
    exact W.iconst vb h3 e3 hr hp4
theorem Walk.dia_icmp_ge (W : Walk tab sig l Z a0 n0 own nm bytes maxL ret R Q J) {x y : Int32} {o i1 o2 i3 : Int} {pc2 pe : Nat} (va vb : Int32) (hd : decode bytes pc = .ok (.if_icmp .ge o, 3)) (h1 : decode bytes pc2 = .ok (.iconst i1, 1)) (h2 : decode bytes (pc2 + 1) = .ok (.goto o2, 3)) (h3 : decode bytes pc' = .ok (.iconst i3, 1)) (e1 : Int32.ofInt i1 = va) (e3 : Int32.ofInt i3 = vb)
    (hr : J pe Ls (.int (if (x < y) then va else vb) :: S) G k sl) (ho : 0 ≤ (pc : Int) + o := by decide) (hp : ((pc : Int) + o).toNat = pc' := by decide) (hp2 : pc + 3 = pc2 := by rfl) (ho2 : 0 ≤ ((pc2 + 1 : Nat) : Int) + o2 := by decide) (hp3 : (((pc2 + 1 : Nat) : Int) + o2).toNat = pe := by decide) (hp4 : pc' + 1 = pe := by rfl) : J pc Ls (.int y :: .int x :: S) G k sl := by
  refine W.icmp_ge (pc' := pc') (pc2 := pc2) hd (fun q => ?_) (fun q => ?_) ho hp hp2
  · rw [if_pos q] at hr
    exact W.iconst va h1 e1 (W.goto h2 hr ho2 hp3) rfl
  · rw [if_neg q] at hr
    exact W.iconst vb h3 e3 hr hp4
theorem Walk.dia_ifl_ge (W : Walk tab sig l Z a0 n0 own nm bytes maxL ret R Q J) {x y : Int64} {o i1 o2 i3 : Int} {pc2 pe : Nat} (va vb : Int32) (hd : decode bytes pc = .ok (.ifCond .ge o, 3)) (h1 : decode bytes pc2 = .ok (.iconst i1, 1)) (h2 : decode bytes (pc2 + 1) = .ok (.goto o2, 3)) (h3 : decode bytes pc' = .ok (.iconst i3, 1)) (e1 : Int32.ofInt i1 = va) (e3 : Int32.ofInt i3 = vb)
    (hr : J pe Ls (.int (if (x < y) then va else vb) :: S) G k sl) (ho : 0 ≤ (pc : Int) + o := by decide) (hp : ((pc : Int) + o).toNat = pc' := by decide) (hp2 : pc + 3 = pc2 := by rfl) (ho2 : 0 ≤ ((pc2 + 1 : Nat) : Int) + o2 := by decide) (hp3 : (((pc2 + 1 : Nat) : Int) + o2).toNat = pe := by decide) (hp4 : pc' + 1 = pe := by rfl) : J pc Ls (.int (XT.cmpL x y) :: S) G k sl := by
  refine W.ifl_ge (pc' := pc') (pc2 := pc2) hd (fun q => ?_) (fun q => ?_) ho hp hp2
  · rw [if_pos q] at hr
    exact W.iconst va h1 e1 (W.goto h2 hr ho2 hp3) rfl
  · rw [if_neg q] at hr
    exact W.iconst vb h3 e3 hr hp4
theorem Walk.dia_if_gt (W : Walk tab sig l Z a0 n0 own nm bytes maxL ret R Q J) {x : Int32} {o i1 o2 i3 : Int} {pc2 pe : Nat} (va vb : Int32) (hd : decode bytes pc = .ok (.ifCond .gt o, 3)) (h1 : decode bytes pc2 = .ok (.iconst i1, 1)) (h2 : decode bytes (pc2 + 1) = .ok (.goto o2, 3)) (h3 : decode bytes pc' = .ok (.iconst i3, 1)) (e1 : Int32.ofInt i1 = va) (e3 : Int32.ofInt i3 = vb)
    (hr : J pe Ls (.int (if (0 < x) then vb else va) :: S) G k sl) (ho : 0 ≤ (pc : Int) + o := by decide) (hp : ((pc : Int) + o).toNat = pc' := by decide) (hp2 : pc + 3 = pc2 := by rfl) (ho2 : 0 ≤ ((pc2 + 1 : Nat) : Int) + o2 := by decide) (hp3 : (((pc2 + 1 : Nat) : Int) + o2).toNat = pe := by decide) (hp4 : pc' + 1 = pe := by rfl) : J pc Ls (.int x :: S) G k sl := by
  refine W.if_gt (pc' := pc') (pc2 := pc2) hd (fun q => ?_) (fun q => ?_) ho hp hp2
  · rw [if_pos q] at hr
    exact W.iconst vb h3 e3 hr hp4
  · rw [if_neg q] at hr
    exact W.iconst va h1 e1 (W.goto h2 hr ho2 hp3) rfl
theorem Walk.dia_icmp_gt (W : Walk tab sig l Z a0 n0 own nm bytes maxL ret R Q J) {x y : Int32} {o i1 o2 i3 : Int} {pc2 pe : Nat} (va vb : Int32) (hd : decode bytes pc = .ok (.if_icmp .gt o, 3)) (h1 : decode bytes pc2 = .ok (.iconst i1, 1)) (h2 : decode bytes (pc2 + 1) = .ok (.goto o2, 3)) (h3 : decode bytes pc' = .ok (.iconst i3, 1)) (e1 : Int32.ofInt i1 = va) (e3 : Int32.ofInt i3 = vb)
    (hr : J pe Ls (.int (if (y < x) then vb else va) :: S) G k sl) (ho : 0 ≤ (pc : Int) + o := by decide) (hp : ((pc : Int) + o).toNat = pc' := by decide) (hp2 : pc + 3 = pc2 := by rfl) (ho2 : 0 ≤ ((pc2 + 1 : Nat) : Int) + o2 := by decide) (hp3 : (((pc2 + 1 : Nat) : Int) + o2).toNat = pe := by decide) (hp4 : pc' + 1 = pe := by rfl) : J pc Ls (.int y :: .int x :: S) G k sl := by
  refine W.icmp_gt (pc' := pc') (pc2 := pc2) hd (fun q => ?_) (fun q => ?_) ho hp hp2
  · rw [if_pos q] at hr
    exact W.iconst vb h3 e3 hr hp4
  · rw [if_neg q] at hr
    exact W.iconst va h1 e1 (W.goto h2 hr ho2 hp3) rfl
theorem Walk.dia_ifl_gt (W : Walk tab sig l Z a0 n0 own nm bytes maxL ret R Q J) {x y : Int64} {o i1 o2 i3 : Int} {pc2 pe : Nat} (va vb : Int32) (hd : decode bytes pc = .ok (.ifCond .gt o, 3)) (h1 : decode bytes pc2 = .ok (.iconst i1, 1)) (h2 : decode bytes (pc2 + 1) = .ok (.goto o2, 3)) (h3 : decode bytes pc' = .ok (.iconst i3, 1)) (e1 : Int32.ofInt i1 = va) (e3 : Int32.ofInt i3 = vb)
    (hr : J pe Ls (.int (if (y < x) then vb else va) :: S) G k sl) (ho : 0 ≤ (pc : Int) + o := by decide) (hp : ((pc : Int) + o).toNat = pc' := by decide) (hp2 : pc + 3 = pc2 := by rfl) (ho2 : 0 ≤ ((pc2 + 1 : Nat) : Int) + o2 := by decide) (hp3 : (((pc2 + 1 : Nat) : Int) + o2).toNat = pe := by decide) (hp4 : pc' + 1 = pe := by rfl) : J pc Ls (.int (XT.cmpL x y) :: S) G k sl := by
  refine W.ifl_gt (pc' := pc') (pc2 := pc2) hd (fun q => ?_) (fun q => ?_) ho hp hp2
  · rw [if_pos q] at hr
    exact W.iconst vb h3 e3 hr hp4
  · rw [if_neg q] at hr
    exact W.iconst va h1 e1 (W.goto h2 hr ho2 hp3) rfl
theorem Walk.dia_if_le (W : Walk tab sig l Z a0 n0 own nm bytes maxL ret R Q J) {x : Int32} {o i1 o2 i3 : Int} {pc2 pe : Nat} (va vb : Int32) (hd : decode bytes pc = .ok (.ifCond .le o, 3)) (h1 : decode bytes pc2 = .ok (.iconst i1, 1)) (h2 : decode bytes (pc2 + 1) = .ok (.goto o2, 3)) (h3 : decode bytes pc' = .ok (.iconst i3, 1)) (e1 : Int32.ofInt i1 = va) (e3 : Int32.ofInt i3 = vb)
    (hr : J pe Ls (.int (if (0 < x) then va else vb) :: S) G k sl) (ho : 0 ≤ (pc : Int) + o := by decide) (hp : ((pc : Int) + o).toNat = pc' := by decide) (hp2 : pc + 3 = pc2 := by rfl) (ho2 : 0 ≤ ((pc2 + 1 : Nat) : Int) + o2 := by decide) (hp3 : (((pc2 + 1 : Nat) : Int) + o2).toNat = pe := by decide) (hp4 : pc' + 1 = pe := by rfl) : J pc Ls (.int x :: S) G k sl := by
  refine W.if_le (pc' := pc') (pc2 := pc2) hd (fun q => ?_) (fun q => ?_) ho hp hp2
  · rw [if_pos q] at hr
    exact W.iconst va h1 e1 (W.goto h2 hr ho2 hp3) rfl
  · rw [if_neg q] at hr
    exact W.iconst vb h3 e3 hr hp4
theorem Walk.dia_icmp_le (W : Walk tab sig l Z a0 n0 own nm bytes maxL ret R Q J) {x y : Int32} {o i1 o2 i3 : Int} {pc2 pe : Nat} (va vb : Int32) (hd : decode bytes pc = .ok (.if_icmp .le o, 3)) (h1 : decode bytes pc2 = .ok (.iconst i1, 1)) (h2 : decode bytes (pc2 + 1) = .ok (.goto o2, 3)) (h3 : decode bytes pc' = .ok (.iconst i3, 1)) (e1 : Int32.ofInt i1 = va) (e3 : Int32.ofInt i3 = vb)
    (hr : J pe Ls (.int (if (y < x) then va else vb) :: S) G k sl) (ho : 0 ≤ (pc : Int) + o := by decide) (hp : ((pc : Int) + o).toNat = pc' := by decide) (hp2 : pc + 3 = pc2 := by rfl) (ho2 : 0 ≤ ((pc2 + 1 : Nat) : Int) + o2 := by decide) (hp3 : (((pc2 + 1 : Nat) : Int) + o2).toNat = pe := by decide) (hp4 : pc' + 1 = pe := by rfl) : J pc Ls (.int y :: .int x :: S) G k sl := by
  refine W.icmp_le (pc' := pc') (pc2 := pc2) hd (fun q => ?_) (fun q => ?_) ho hp hp2
  · rw [if_pos q] at hr
    exact W.iconst va h1 e1 (W.goto h2 hr ho2 hp3) rfl
  · rw [if_neg q] at hr
    exact W.iconst vb h3 e3 hr hp4
theorem Walk.dia_ifl_le (W : Walk tab sig l Z a0 n0 own nm bytes maxL ret R Q J) {x y : Int64} {o i1 o2 i3 : Int} {pc2 pe : Nat} (va vb : Int32) (hd : decode bytes pc = .ok (.ifCond .le o, 3)) (h1 : decode bytes pc2 = .ok (.iconst i1, 1)) (h2 : decode bytes (pc2 + 1) = .ok (.goto o2, 3)) (h3 : decode bytes pc' = .ok (.iconst i3, 1)) (e1 : Int32.ofInt i1 = va) (e3 : Int32.ofInt i3 = vb)
    (hr : J pe Ls (.int (if (y < x) then va else vb) :: S) G k sl) (ho : 0 ≤ (pc : Int) + o := by decide) (hp : ((pc : Int) + o).toNat = pc' := by decide) (hp2 : pc + 3 = pc2 := by rfl) (ho2 : 0 ≤ ((pc2 + 1 : Nat) : Int) + o2 := by decide) (hp3 : (((pc2 + 1 : Nat) : Int) + o2).toNat = pe := by decide) (hp4 : pc' + 1 = pe := by rfl) : J pc Ls (.int (XT.cmpL x y) :: S) G k sl := by
  refine W.ifl_le (pc' := pc') (pc2 := pc2) hd (fun q => ?_) (fun q => ?_) ho hp hp2
  · rw [if_pos q] at hr
    exact W.iconst va h1 e1 (W.goto h2 hr ho2 hp3) rfl
  · rw [if_neg q] at hr
    exact W.iconst vb h3 e3 hr hp4
end Steps
/-! ## the ghost heap over a step that writes or makes -/
section Heap
variable {tab : List Jvm.Cond} {sig : Sig} {l : Launch} {Z : State} {a0 : Array Value} {n0 : Nat} {own nm : String} {bytes : ByteArray} {maxL : Nat} {ret : Option FieldType} {R : Room} {Q : Post} {J : JT} {pc pc' : Nat} {Ls : List Slot} {S : List Value} {G : Ghost} {k sl : Nat} {h h' : Heap} {a b : Addr} {o : Obj} {v w : Value} {j : Nat}
theorem ObjAt.other {sl' : Nat} (W : Wr h h' a sl' v) (hne : b ≠ a) (F : ObjAt sig Z h b o) : ObjAt sig Z h' b o := by
  obtain ⟨t, vs⟩ := o
  cases t with
  | inl ci =>
    obtain ⟨C, n, fs, h1, h2, h3, h4⟩ := F
    exact ⟨C, n, fs, h1, h2.wr W, h3, fun i O nm d ty v hf hv => Fld.other W (h4 i O nm d ty v hf hv) (Or.inl hne)⟩
  | inr ty =>
    obtain ⟨c, h1, h2⟩ := F
    exact ⟨c, h1.other W hne, h2⟩
theorem ObjAt.ext (E : Ext h h') (F : ObjAt sig Z h b o) : ObjAt sig Z h' b o := by
  obtain ⟨t, vs⟩ := o
  cases t with
  | inl ci =>
    obtain ⟨C, n, fs, h1, h2, h3, h4⟩ := F
    exact ⟨C, n, fs, h1, h2.ext E, h3, fun i O nm d ty v hf hv => (h4 i O nm d ty v hf hv).ext E⟩
  | inr ty =>
    obtain ⟨c, h1, h2⟩ := F
    exact ⟨c, h1.ext E, h2⟩
theorem Rep.write {sl' : Nat} {o o' : Obj} (hG : Rep sig Z n0 h G) (W : Wr h h' (n0 + j) sl' v) (hO : G[j]? = some o) (hN : ObjAt sig Z h' (n0 + j) o') : Rep sig Z n0 h' (G.set j o') := by
  obtain ⟨rfl, h2, h3, h4⟩ := hG
  have hj : j < G.length := (List.getElem?_eq_some_iff.mp hO).1
  refine ⟨rfl, ⟨by rw [W.size]; exact h2.1, fun a c hc => ?_⟩, by rw [W.size, h3]; simp, fun k o2 hk => ?_⟩
  · obtain ⟨c', e1, -, -, -, e5, -⟩ := wr_at W (h2.2 a c hc)
    have : a < Z.heap.size := (Array.getElem?_eq_some_iff.mp hc).1
    rw [e1, e5 (Nat.ne_of_lt (Nat.lt_of_lt_of_le this (Nat.le_add_right _ _)))]
  · by_cases q : k = j
    · subst q
      rw [List.getElem?_set_self hj] at hk
      cases hk
      exact hN
    · rw [List.getElem?_set_ne (fun z => q z.symm)] at hk
      exact ObjAt.other W (fun z => q (Nat.add_left_cancel z)) (h4 k o2 hk)
theorem Rep.push {o' : Obj} (hG : Rep sig Z n0 h G) (E : Ext h h') (hs : h'.size = h.size + 1) (hN : ObjAt sig Z h' h.size o') : Rep sig Z n0 h' (G ++ [o']) := by
  obtain ⟨rfl, h2, h3, h4⟩ := hG
  refine ⟨rfl, ⟨Nat.le_trans h2.1 E.1, fun a c hc => E.2 a c (h2.2 a c hc)⟩, by rw [hs, h3]; simp; omega, fun k o2 hk => ?_⟩
  rcases Nat.lt_or_ge k G.length with q | q
  · rw [List.getElem?_append_left q] at hk
    exact (h4 k o2 hk).ext E
  · rw [List.getElem?_append_right q] at hk
    cases hq : k - G.length with
    | zero =>
      rw [hq] at hk
      cases hk
      have e : k = G.length := by omega
      have : Z.heap.size + k = h.size := by rw [h3, e]
      rw [this]
      exact hN
    | succ n => rw [hq] at hk; cases hk
theorem Rep.start (Z : State) : Rep sig Z Z.heap.size Z.heap [] := ⟨rfl, ⟨Nat.le_refl _, fun _ _ h => h⟩, rfl, fun k o h => by cases h⟩
theorem fr_snoc {locs : List Loc} {sl' : Nat} (N : Fr n0 locs) : Fr n0 (locs ++ [⟨n0 + j, sl'⟩]) := N.app fun y hy => by cases List.mem_singleton.mp hy; exact Nat.le_add_right _ _
theorem Walk.getfield (W : Walk tab sig l Z a0 n0 own nm bytes maxL ret R Q J) {idx ci n : Nat} (i : Nat) {C O f d host : String} {ty : FieldType} {fs : List Fd} {vs : List Value} (hd : decode bytes pc = .ok (.getfield idx, 3))
    (hlink : Jvm.Cond.fieldLink own idx O f d ∈ tab ∨ Jvm.Cond.fieldLinkNest own idx O f d host ∈ tab) (hO : G[j]? = some (.inl ci, vs)) (hc : sig[ci]? = some (C, n, fs)) (hf : fs[i]? = some (O, f, d, ty)) (hv : vs[i]? = some v)
    (hr : J pc' Ls (v :: S) G k sl) (hp : pc + 3 = pc' := by rfl) : J pc Ls (.ref (n0 + j) :: S) G k sl := by
  obtain ⟨p, e, s, m, args, below, meth, c, rfl, hx, hby, hml, hret, hlk, hnm, hZ, hown, hw, hS⟩ := W
  subst hp
  intro T locs X hG hF
  obtain ⟨C', n', fs', e1, E, hlen, F⟩ := hG.2.2.2 j _ hO
  cases hc.symm.trans e1
  obtain ⟨T', X', e', st⟩ := getF X hx hZ hown (host := host) (hlink.imp (hw _) (hw _)) Via.refl rfl (F i O f d ty v hf hv) (g := mkF m pc Ls.toArray (.ref (n0 + j) :: S)) rfl rfl (Jvm.hb hby hd)
  obtain ⟨t, o, st2, h⟩ := hr T' locs X' (by rw [e']; exact hG) hF
  exact ⟨t, o, st _ st2, h⟩
/-- 'getfield' by an entry that the run has resolved already -/
theorem Walk.getfieldR (W : Walk tab sig l Z a0 n0 own nm bytes maxL ret R Q J) {idx ci n : Nat} (i : Nat) {C O f d : String} {ty : FieldType} {fs : List Fd} {vs : List Value} (hd : decode bytes pc = .ok (.getfield idx, 3))
    (hlink : Jvm.Cond.fieldRef own idx O f d ∈ tab) (hO : G[j]? = some (.inl ci, vs)) (hc : sig[ci]? = some (C, n, fs)) (hf : fs[i]? = some (O, f, d, ty)) (hv : vs[i]? = some v)
    (hr : J pc' Ls (v :: S) G k sl) (hp : pc + 3 = pc' := by rfl) : J pc Ls (.ref (n0 + j) :: S) G k sl := by
  obtain ⟨p, e, s, m, args, below, meth, c, rfl, hx, hby, hml, hret, hlk, hnm, hZ, hown, hw, hS⟩ := W
  subst hp
  intro T locs X hG hF
  obtain ⟨C', n', fs', e1, E, hlen, F⟩ := hG.2.2.2 j _ hO
  cases hc.symm.trans e1
  obtain ⟨cell, cf, k1, i1, fl, h1, h2, h3, h4, -, -, h7⟩ := F i O f d ty v hf hv
  have hT : Z.Warmed39 T.vm := wtrans hZ X.warmed
  have hcur : (Z.setVm T.vm).vm.findClass own = some m.cls := by
    show T.vm.findClass own = some m.cls
    rw [X.warmed.alike.findClass]; exact hown
  obtain ⟨c2, k2, i2, f2, hf2, hready⟩ := Cond.fieldRef_spec hcur (Cond.fieldRef_warmed39 hT (hw _ hlink))
  obtain ⟨k3, g1, -⟩ := State.fieldFound?_setVm (s := Z) hT.alike h2
  have g2 : (Z.setVm T.vm).fieldFound? O f d = some (cf, k3, i1, fl) := g1
  cases hf2.symm.trans g2
  obtain ⟨t, o, st2, h⟩ := hr T locs X hG hF
  refine ⟨t, o, ?_, h⟩
  have hd' := Jvm.hb hby hd
  jvm_step X.here [hx, hd', getfield.wp_ready (e := e) (s := T) (f := mkF m pc Ls.toArray (.ref (n0 + j) :: S)) X.here.top hready h3 rfl h1 h4 h7]
  exact st2
theorem Walk.putfield (W : Walk tab sig l Z a0 n0 own nm bytes maxL ret R Q J) {idx ci n : Nat} (i : Nat) {C O f d host : String} {ty : FieldType} {fs : List Fd} {vs : List Value} (hd : decode bytes pc = .ok (.putfield idx, 3))
    (hlink : Jvm.Cond.fieldLink own idx O f d ∈ tab ∨ Jvm.Cond.fieldLinkNest own idx O f d host ∈ tab) (hO : G[j]? = some (.inl ci, vs)) (hc : sig[ci]? = some (C, n, fs)) (hf : fs[i]? = some (O, f, d, ty))
    (L : Jvm.Cond.lays C O f d ∈ tab ∨ (Jvm.Cond.laysFinal C O f d ∈ tab ∧ own = O ∧ nm = "<init>")) (hn : narrow ty v = v) (hfit : fits ty v = true)
    (hr : J pc' Ls S (G.set j (.inl ci, vs.set i v)) k sl) (hp : pc + 3 = pc' := by rfl) : J pc Ls (v :: .ref (n0 + j) :: S) G k sl := by
  obtain ⟨p, e, s, m, args, below, meth, c, rfl, hx, hby, hml, hret, hlk, rfl, hZ, hown, hw, hS⟩ := W
  subst hp
  intro T locs X hG hF
  obtain ⟨C', n', fs', e1, E, hlen, F⟩ := hG.2.2.2 j _ hO
  cases hc.symm.trans e1
  obtain ⟨s1, s2, s3⟩ := hS ci C n fs hc
  have hi : i < fs.length := (List.getElem?_eq_some_iff.mp hf).1
  have hv : vs[i]? = some vs[i] := List.getElem?_eq_getElem (by omega)
  have F1 := F i O f d ty _ hf hv
  obtain ⟨T', h', X', e', W', st⟩ := putF X hx hZ hown (host := host) (hlink.imp (hw _) (hw _)) Via.refl rfl F1 E (L.imp (hw _) fun q => ⟨hw _ q.1, q.2⟩) (hw _ s1) (s2 _ (List.mem_of_getElem? hf)).2 hn hfit (g := mkF m pc Ls.toArray (v :: .ref (n0 + j) :: S)) rfl rfl (Jvm.hb hby hd)
  have hN : ObjAt sig Z h' (n0 + j) (.inl ci, vs.set i v) := by
    refine ⟨C, n, fs, hc, E.wr W', by simp [hlen], fun i' O' f' d' ty' v' hf' hv' => ?_⟩
    by_cases q : i' = i
    · subst q
      cases hf.symm.trans hf'
      rw [List.getElem?_set_self (by omega)] at hv'
      cases hv'
      exact F1.same W'
    · rw [List.getElem?_set_ne (fun z => q z.symm)] at hv'
      refine Fld.other W' (F i' O' f' d' ty' v' hf' hv') (Or.inr ?_)
      have m1 := s2 _ (List.mem_of_getElem? hf)
      have m2 := s2 _ (List.mem_of_getElem? hf')
      refine slot_ne (a0 := a0) (C := C) (m2.1.imp (hw _) (hw _)) (m1.1.imp (hw _) (hw _)) (fun z => q ?_) m2.2 m1.2
      have g1 : (fs.map (·.2.1))[i]? = some f := by simp [hf]
      have g2 : (fs.map (·.2.1))[i']? = some f' := by simp [hf']
      have hi' : i' < fs.length := (List.getElem?_eq_some_iff.mp hf').1
      exact (List.getElem?_inj (by simpa using hi') s3).mp (g2.trans (by rw [g1]; exact congrArg some z))
  obtain ⟨t, o, st2, h⟩ := hr T' _ X' (by rw [e']; exact Rep.write hG W' hO hN) (fr_snoc hF)
  exact ⟨t, o, st _ st2, h⟩
theorem ix_in {c : Cell} {vs : List Value} {x : Int32} {i : Nat} (hs : c.slots.toList = vs) (hx : x.toInt = i) (hi : i < vs.length) : ¬ (x < 0 ∨ c.slots.size ≤ x.toNatClampNeg) ∧ x.toNatClampNeg = i := by
  have h1 : x.toNatClampNeg = i := by simp [Int32.toNatClampNeg, hx]
  subst hs
  refine ⟨fun q => ?_, h1⟩
  rcases q with q | q
  · rw [Int32.lt_iff_toInt_lt, hx] at q
    simp at q
    omega
  · rw [h1] at q
    simp at hi
    omega
theorem arr_get {c : Cell} {vs : List Value} {x : Int32} {i : Nat} (hs : c.slots.toList = vs) (h1 : x.toNatClampNeg = i) (hv : vs[i]? = some v) : c.slots[x.toNatClampNeg]? = some v := by
  subst hs; rw [h1]; simpa using hv
/-- what a load of an array's component pushes -/
theorem Walk.iaload (W : Walk tab sig l Z a0 n0 own nm bytes maxL ret R Q J) {x : Int32} (i : Nat) {vs : List Value} (hd : decode bytes pc = .ok (.iaload, 1)) (hO : G[j]? = some (.inr .int, vs)) (hi : x.toInt = i) (hv : vs[i]? = some v)
    (hr : J pc' Ls (v :: S) G k sl) (hp : pc + 1 = pc' := by rfl) : J pc Ls (.int x :: .ref (n0 + j) :: S) G k sl := by
  obtain ⟨p, e, s, m, args, below, meth, c, rfl, hx, hby, hml, hret, hlk, hnm, hZ, hown, hw, hS⟩ := W
  subst hp
  intro T locs X hG hF
  obtain ⟨cl, A, hs, -⟩ := hG.2.2.2 j _ hO
  obtain ⟨q1, q2⟩ := ix_in hs hi (List.getElem?_eq_some_iff.mp hv).1
  obtain ⟨t, o, st, h⟩ := hr T locs X hG hF
  exact ⟨t, o, X.iaload hx A.1 (State.isArrayOf_alike hZ.alike A.2.1) A.2.2 q1 (arr_get hs q2 hv) (g := mkF m pc Ls.toArray (.int x :: .ref (n0 + j) :: S)) rfl rfl (Jvm.hb hby hd) _ st, h⟩
theorem Walk.laload (W : Walk tab sig l Z a0 n0 own nm bytes maxL ret R Q J) {x : Int32} (i : Nat) {vs : List Value} (hd : decode bytes pc = .ok (.laload, 1)) (hO : G[j]? = some (.inr .long, vs)) (hi : x.toInt = i) (hv : vs[i]? = some v)
    (hr : J pc' Ls (v :: S) G k sl) (hp : pc + 1 = pc' := by rfl) : J pc Ls (.int x :: .ref (n0 + j) :: S) G k sl := by
  obtain ⟨p, e, s, m, args, below, meth, c, rfl, hx, hby, hml, hret, hlk, hnm, hZ, hown, hw, hS⟩ := W
  subst hp
  intro T locs X hG hF
  obtain ⟨cl, A, hs, -⟩ := hG.2.2.2 j _ hO
  obtain ⟨q1, q2⟩ := ix_in hs hi (List.getElem?_eq_some_iff.mp hv).1
  obtain ⟨t, o, st, h⟩ := hr T locs X hG hF
  exact ⟨t, o, X.laload hx A.1 (State.isArrayOf_alike hZ.alike A.2.1) A.2.2 q1 (arr_get hs q2 hv) (g := mkF m pc Ls.toArray (.int x :: .ref (n0 + j) :: S)) rfl rfl (Jvm.hb hby hd) _ st, h⟩
theorem Walk.baload (W : Walk tab sig l Z a0 n0 own nm bytes maxL ret R Q J) {x : Int32} (i : Nat) {vs : List Value} (hd : decode bytes pc = .ok (.baload, 1)) (hO : G[j]? = some (.inr .byte, vs)) (hi : x.toInt = i) (hv : vs[i]? = some v)
    (hr : J pc' Ls (v :: S) G k sl) (hp : pc + 1 = pc' := by rfl) : J pc Ls (.int x :: .ref (n0 + j) :: S) G k sl := by
  obtain ⟨p, e, s, m, args, below, meth, c, rfl, hx, hby, hml, hret, hlk, hnm, hZ, hown, hw, hS⟩ := W
  subst hp
  intro T locs X hG hF
  obtain ⟨cl, A, hs, -⟩ := hG.2.2.2 j _ hO
  obtain ⟨q1, q2⟩ := ix_in hs hi (List.getElem?_eq_some_iff.mp hv).1
  obtain ⟨t, o, st, h⟩ := hr T locs X hG hF
  exact ⟨t, o, X.baloadBytes hx A.1 (State.isArrayOf_alike hZ.alike A.2.1) A.2.2 q1 (arr_get hs q2 hv) (g := mkF m pc Ls.toArray (.int x :: .ref (n0 + j) :: S)) rfl rfl (Jvm.hb hby hd) _ st, h⟩
theorem Walk.aaload (W : Walk tab sig l Z a0 n0 own nm bytes maxL ret R Q J) {x : Int32} {ty : FieldType} (i : Nat) {vs : List Value} (hd : decode bytes pc = .ok (.aaload, 1)) (hO : G[j]? = some (.inr ty, vs)) (hty : ty.isReference = true) (hi : x.toInt = i) (hv : vs[i]? = some v)
    (hr : J pc' Ls (v :: S) G k sl) (hp : pc + 1 = pc' := by rfl) : J pc Ls (.int x :: .ref (n0 + j) :: S) G k sl := by
  obtain ⟨p, e, s, m, args, below, meth, c, rfl, hx, hby, hml, hret, hlk, hnm, hZ, hown, hw, hS⟩ := W
  subst hp
  intro T locs X hG hF
  obtain ⟨cl, A, hs, -⟩ := hG.2.2.2 j _ hO
  obtain ⟨q1, q2⟩ := ix_in hs hi (List.getElem?_eq_some_iff.mp hv).1
  obtain ⟨t, o, st, h⟩ := hr T locs X hG hF
  exact ⟨t, o, X.aaload hx A.1 (State.isArrayOf_alike hZ.alike A.2.1) hty A.2.2 q1 (arr_get hs q2 hv) (g := mkF m pc Ls.toArray (.int x :: .ref (n0 + j) :: S)) rfl rfl (Jvm.hb hby hd) _ st, h⟩
theorem Walk.arraylength (W : Walk tab sig l Z a0 n0 own nm bytes maxL ret R Q J) {ty : FieldType} {vs : List Value} (z : Int32) (hd : decode bytes pc = .ok (.arraylength, 1)) (hO : G[j]? = some (.inr ty, vs)) (hz : vs.length.toInt32 = z)
    (hr : J pc' Ls (.int z :: S) G k sl) (hp : pc + 1 = pc' := by rfl) : J pc Ls (.ref (n0 + j) :: S) G k sl := by
  obtain ⟨p, e, s, m, args, below, meth, c, rfl, hx, hby, hml, hret, hlk, hnm, hZ, hown, hw, hS⟩ := W
  subst hp hz
  intro T locs X hG hF
  obtain ⟨cl, A, hs, -⟩ := hG.2.2.2 j _ hO
  obtain ⟨t, o, st, h⟩ := hr T locs X hG hF
  have e : cl.slots.size.toInt32 = vs.length.toInt32 := by rw [← hs]; simp
  exact ⟨t, o, X.arraylength hx A.1 (State.isArrayOf_alike hZ.alike A.2.1) (g := mkF m pc Ls.toArray (.ref (n0 + j) :: S)) rfl rfl (Jvm.hb hby hd) _ (by rw [e]; exact st), h⟩
theorem ObjAt.set {ty : FieldType} {vs : List Value} {x : Int32} {i : Nat} (W : Wr h h' a x.toNatClampNeg v) (F : ObjAt sig Z h a (.inr ty, vs)) (hi : x.toNatClampNeg = i) (hf : fits ty v = true) : ObjAt sig Z h' a (.inr ty, vs.set i v) := by
  obtain ⟨c, A, hs, h1, h2, h3⟩ := F
  subst hi hs
  refine ⟨_, A.same W, by simp [Cell.setSlot], by simpa using h1, fun u hu => ?_, h3⟩
  rcases List.mem_or_eq_of_mem_set hu with q | q
  · exact h2 u q
  · rw [q]; exact hf
theorem Walk.iastore (W : Walk tab sig l Z a0 n0 own nm bytes maxL ret R Q J) {x y : Int32} (i : Nat) {vs : List Value} (hd : decode bytes pc = .ok (.iastore, 1)) (hO : G[j]? = some (.inr .int, vs)) (hi : x.toInt = i) (hl : i < vs.length)
    (hr : J pc' Ls S (G.set j (.inr .int, vs.set i (.int y))) k sl) (hp : pc + 1 = pc' := by rfl) : J pc Ls (.int y :: .int x :: .ref (n0 + j) :: S) G k sl := by
  obtain ⟨p, e, s, m, args, below, meth, c, rfl, hx, hby, hml, hret, hlk, hnm, hZ, hown, hw, hS⟩ := W
  subst hp
  intro T locs X hG hF
  have F := hG.2.2.2 j _ hO
  obtain ⟨cl, A, hs, -⟩ := F
  obtain ⟨q1, q2⟩ := ix_in hs hi hl
  obtain ⟨T', h', X', e', W', st⟩ := stI X hx hZ rfl A q1 (g := mkF m pc Ls.toArray (.int y :: .int x :: .ref (n0 + j) :: S)) rfl rfl (Jvm.hb hby hd)
  obtain ⟨t, o, st2, h⟩ := hr T' _ X' (by rw [e']; exact Rep.write hG W' hO (ObjAt.set W' (hG.2.2.2 j _ hO) q2 rfl)) (fr_snoc hF)
  exact ⟨t, o, st _ st2, h⟩
theorem Walk.lastore (W : Walk tab sig l Z a0 n0 own nm bytes maxL ret R Q J) {x : Int32} {y : Int64} (i : Nat) {vs : List Value} (hd : decode bytes pc = .ok (.lastore, 1)) (hO : G[j]? = some (.inr .long, vs)) (hi : x.toInt = i) (hl : i < vs.length)
    (hr : J pc' Ls S (G.set j (.inr .long, vs.set i (.long y))) k sl) (hp : pc + 1 = pc' := by rfl) : J pc Ls (.long y :: .int x :: .ref (n0 + j) :: S) G k sl := by
  obtain ⟨p, e, s, m, args, below, meth, c, rfl, hx, hby, hml, hret, hlk, hnm, hZ, hown, hw, hS⟩ := W
  subst hp
  intro T locs X hG hF
  have F := hG.2.2.2 j _ hO
  obtain ⟨cl, A, hs, -⟩ := F
  obtain ⟨q1, q2⟩ := ix_in hs hi hl
  obtain ⟨T', h', X', e', W', st⟩ := stJ X hx hZ rfl A q1 (g := mkF m pc Ls.toArray (.long y :: .int x :: .ref (n0 + j) :: S)) rfl rfl (Jvm.hb hby hd)
  obtain ⟨t, o, st2, h⟩ := hr T' _ X' (by rw [e']; exact Rep.write hG W' hO (ObjAt.set W' (hG.2.2.2 j _ hO) q2 rfl)) (fr_snoc hF)
  exact ⟨t, o, st _ st2, h⟩
theorem Walk.bastore (W : Walk tab sig l Z a0 n0 own nm bytes maxL ret R Q J) {x y : Int32} (i : Nat) {vs : List Value} (hd : decode bytes pc = .ok (.bastore, 1)) (hO : G[j]? = some (.inr .byte, vs)) (hi : x.toInt = i) (hl : i < vs.length)
    (hr : J pc' Ls S (G.set j (.inr .byte, vs.set i (.int y.toInt8.toInt32))) k sl) (hp : pc + 1 = pc' := by rfl) : J pc Ls (.int y :: .int x :: .ref (n0 + j) :: S) G k sl := by
  obtain ⟨p, e, s, m, args, below, meth, c, rfl, hx, hby, hml, hret, hlk, hnm, hZ, hown, hw, hS⟩ := W
  subst hp
  intro T locs X hG hF
  have F := hG.2.2.2 j _ hO
  obtain ⟨cl, A, hs, -⟩ := F
  obtain ⟨q1, q2⟩ := ix_in hs hi hl
  obtain ⟨T', h', X', e', W', st⟩ := stB X hx hZ rfl A q1 (g := mkF m pc Ls.toArray (.int y :: .int x :: .ref (n0 + j) :: S)) rfl rfl (Jvm.hb hby hd)
  obtain ⟨t, o, st2, h⟩ := hr T' _ X' (by rw [e']; exact Rep.write hG W' hO (ObjAt.set (v := .int (nar .byte y)) W' (hG.2.2.2 j _ hO) q2 (fits_nar_byte y))) (fr_snoc hF)
  exact ⟨t, o, st _ st2, h⟩
theorem Walk.new (W : Walk tab sig l Z a0 n0 own nm bytes maxL ret R Q J) {idx n : Nat} (ci : Nat) {C : String} {fs : List Fd} {vs : List Value} (hd : decode bytes pc = .ok (.new idx, 3)) (hc : sig[ci]? = some (C, n, fs)) (w1 : Jvm.Cond.classLink own idx C ∈ tab) (w2 : Jvm.Cond.initialized C ∈ tab)
    (hvs : fs.map (fun f => defaultValue f.2.2.2) = vs) (hk : k + 1 ≤ R.cells) (hsl : sl + n ≤ R.slots) (hr : J pc' Ls (.ref (n0 + G.length) :: S) (G ++ [(.inl ci, vs)]) (k + 1) (sl + n)) (hp : pc + 3 = pc' := by rfl) : J pc Ls S G k sl := by
  obtain ⟨p, e, s, m, args, below, meth, c, rfl, hx, hby, hml, hret, hlk, hnm, hZ, hown, hw, hS⟩ := W
  subst hp hvs
  intro T locs X hG hF
  obtain ⟨s1, s2, s3⟩ := hS ci C n fs hc
  have w1' := hw _ w1; have w2' := hw _ w2; have wi := hw _ s1
  obtain ⟨vm', cC, kC, h1, h2, h3, h4, X', st⟩ := X.newCold hx hown (mv hZ w1') (mv hZ wi) (mv hZ w2') (g := mkF m pc Ls.toArray S) rfl (Jvm.hb hby hd) hk hsl
  rw [hZ.alike.findClass] at h1
  obtain ⟨kZ, z1, -⟩ := Vm.findClass_spec h1
  obtain ⟨k', z2, z3⟩ := hZ.alike.2.2 _ _ z1
  cases h2.symm.trans z2
  have ei : kC.instanceTypes = kZ.instanceTypes := by rw [z3]
  have hN : (T.heap.push { cls := cC, slots := kC.instanceTypes.map defaultValue, vm := .none })[T.heap.size]? = some { cls := cC, slots := kC.instanceTypes.map defaultValue, vm := .none } := by simp
  have hE : Ext T.heap (T.heap.push { cls := cC, slots := kC.instanceTypes.map defaultValue, vm := .none }) := ⟨by simp, fun a c h => by rw [Array.getElem?_push_lt (Array.getElem?_eq_some_iff.mp h).1]; exact (Array.getElem?_eq_getElem _).symm.trans h⟩
  have hO : ObjAt sig Z (T.heap.push { cls := cC, slots := kC.instanceTypes.map defaultValue, vm := .none }) T.heap.size (.inl ci, fs.map (fun f => defaultValue f.2.2.2)) := by
    refine ⟨C, n, fs, hc, ⟨_, kZ, hN, h1, z1, rfl, fun _ => by simp [ei]⟩, by simp, fun i O f d ty v hf hv => ?_⟩
    have hv' : v = defaultValue ty := by simp [hf] at hv; exact hv.symm
    subst hv'
    obtain ⟨q1, q2⟩ := s2 _ (List.mem_of_getElem? hf)
    obtain ⟨c1, k1, cf, kf, i, f, a1, a2, a3, a4, a5, a6, -⟩ := Laid.spec (a0 := a0) (q1.imp (hw _) (hw _))
    cases h1.symm.trans a1
    cases z1.symm.trans a2
    exact ⟨_, cf, kf, i, f, hN, a3, a4, by simp, rfl, a5, by simp [ei, a6, (State.fieldFound?_type a3 q2).2]⟩
  have hsz : T.heap.size = n0 + G.length := hG.2.2.1
  have hR := Rep.push hG hE (by simp) hO
  obtain ⟨t, o, st2, h⟩ := hr _ locs X' hR hF
  rw [hsz] at st
  exact ⟨t, o, st _ st2, h⟩
theorem Walk.newarray (W : Walk tab sig l Z a0 n0 own nm bytes maxL ret R Q J) {aty : ArrayType} {x : Int32} (N : Nat) {vs : List Value} (hd : decode bytes pc = .ok (.newarray aty, 2)) (w1 : Jvm.Cond.arrayClass (newarray.typeOf aty) ∈ tab)
    (hN : x.toInt = N) (hvs : List.replicate N (defaultValue (newarray.typeOf aty)) = vs) (hb8 : N * 8 ≤ 536870912) (hk : k + 1 ≤ R.cells) (hsl : sl + N ≤ R.slots)
    (hr : J pc' Ls (.ref (n0 + G.length) :: S) (G ++ [(.inr (newarray.typeOf aty), vs)]) (k + 1) (sl + N)) (hp : pc + 2 = pc' := by rfl) : J pc Ls (.int x :: S) G k sl := by
  obtain ⟨p, e, s, m, args, below, meth, c, rfl, hx, hby, hml, hret, hlk, hnm, hZ, hown, hw, hS⟩ := W
  subst hp hvs
  intro T locs X hG hF
  have hcl : x.toNatClampNeg = N := by simp [Int32.toNatClampNeg, hN]
  have hcb : componentBytes (newarray.typeOf aty) ≤ 8 := by cases aty <;> decide
  obtain ⟨cA, kA, comp, h1, h2, h3, X', st⟩ := X.newarrayPrim hx (mvA hZ (hw _ w1)) (g := mkF m pc Ls.toArray (.int x :: S)) rfl (Jvm.hb hby hd) rfl (by rw [Int32.lt_iff_toInt_lt, hN]; simp <;> omega) (Nat.le_trans (Nat.mul_le_mul (Nat.le_of_eq hcl) hcb) hb8) hk (by rw [hcl]; exact hsl)
  rw [hZ.alike.findClass] at h1
  obtain ⟨kZ, z1, -⟩ := Vm.findClass_spec h1
  obtain ⟨k', z2, z3⟩ := hZ.alike.2.2 _ _ z1
  cases h2.symm.trans z2
  rw [hcl] at X' st
  have hE : Ext T.heap (T.heap.push { cls := cA, slots := Array.replicate N (defaultValue (newarray.typeOf aty)), vm := .none }) := ⟨by simp, fun a c h => by rw [Array.getElem?_push_lt (Array.getElem?_eq_some_iff.mp h).1]; exact (Array.getElem?_eq_getElem _).symm.trans h⟩
  have hO : ObjAt sig Z (T.heap.push { cls := cA, slots := Array.replicate N (defaultValue (newarray.typeOf aty)), vm := .none }) T.heap.size (.inr (newarray.typeOf aty), List.replicate N (defaultValue (newarray.typeOf aty))) := by
    refine ⟨{ cls := cA, slots := Array.replicate N (defaultValue (newarray.typeOf aty)), vm := .none }, ⟨by simp, ⟨by simp, kZ, z1, comp, by rw [← h3, z3]⟩, by simp⟩, by simp, by simp; omega, fun v hv => ?_, h1⟩
    rw [List.eq_of_mem_replicate hv]
    cases aty <;> rfl
  have hsz : T.heap.size = n0 + G.length := hG.2.2.1
  obtain ⟨t, o, st2, h⟩ := hr _ locs X' (Rep.push hG hE (by simp) hO) hF
  rw [hsz] at st
  exact ⟨t, o, st _ st2, h⟩
theorem Walk.initObject (W : Walk tab sig l Z a0 n0 own nm bytes maxL ret R Q J) {idx : Nat} {a : Addr} (hd : decode bytes pc = .ok (.invokespecial idx, 3)) (w1 : Jvm.Cond.methodLink own idx Lib.objectInit ∈ tab) (w2 : Jvm.Cond.instanceMethod Lib.objectInit ∈ tab) (w3 : Jvm.Cond.code Lib.objectInit ⟨#[0xb1]⟩ 1 none ∈ tab)
    (hsz : Ls.length = maxL) (hf : Nat.ble 1 R.frames = true) (hl : Nat.ble ((S.map fun v => v.category).sum + 12) R.locals = true) (hr : J pc' Ls S G k sl) (hp : pc + 3 = pc' := by rfl) : J pc Ls (.ref a :: S) G k sl := by
  obtain ⟨p, e, s, m, args, below, meth, c, rfl, hx, hby, hml, hret, hlk, hnm, hZ, hown, hw, hS⟩ := W
  subst hp
  intro T locs X hG hF
  obtain ⟨T', X', e', st⟩ := initO X hx hZ hown (hw _ w1) (hw _ w2) (hw _ w3) rfl (g := mkF m pc Ls.toArray (.ref a :: S)) rfl (by rw [hml, ← hsz]; simp) rfl (Jvm.hb hby hd) (Nat.le_of_ble_eq_true hf) (W := (S.map fun v => v.category).sum) (by show 2 * 0 + _ ≤ _; omega) (Nat.le_of_ble_eq_true hl)
  obtain ⟨t, o, st2, h⟩ := hr T' locs X' (by rw [e']; exact hG) hF
  exact ⟨t, o, st _ st2, h⟩
theorem fitC_of {c : Cell} {ty : FieldType} {vs : List Value} (A : Arr Z h a c ty) (hs : c.slots.toList = vs) (hf : ∀ v ∈ vs, fits ty v = true) : FitC Z c := fun i v hv => by
  obtain ⟨-, k, hk, comp, hkind⟩ := A.2.1
  have hm : v ∈ vs := by
    rw [← hs]
    have hv' : c.slots.toList[i]? = some v := by simpa using hv
    exact List.mem_of_getElem? hv'
  have e : Z.slotType? c.cls .none i = some ty := by simp [State.slotType?, hk, hkind]
  simp [State.fitsSlot, e, hf v hm]
theorem Walk.clone (W : Walk tab sig l Z a0 n0 own nm bytes maxL ret R Q J) {idx N : Nat} {ty : FieldType} {vs : List Value} {ad : String} (hd : decode bytes pc = .ok (.invokevirtual idx, 3))
    (w1 : Jvm.Cond.methodLink own idx ⟨ad, "clone", "()Ljava/lang/Object;"⟩ ∈ tab) (w2 : Jvm.Cond.sameMethod ad "java/lang/Object" "clone" "()Ljava/lang/Object;" ∈ tab) (w3 : Jvm.Cond.native ⟨"java/lang/Object", "clone", "()Ljava/lang/Object;"⟩ ∈ tab) (w4 : Jvm.Cond.instanceMethod ⟨"java/lang/Object", "clone", "()Ljava/lang/Object;"⟩ ∈ tab)
    (w5 : Jvm.Cond.selects ad ⟨ad, "clone", "()Ljava/lang/Object;"⟩ ⟨"java/lang/Object", "clone", "()Ljava/lang/Object;"⟩ ∈ tab) (w6 : Jvm.Cond.castable ad "java/lang/Cloneable" ∈ tab)
    (hO : G[j]? = some (.inr ty, vs)) (had : "[" ++ ty.toString = ad) (hsz : Ls.length = maxL) (hf : Nat.ble 1 R.frames = true) (hl : Nat.ble ((S.map fun v => v.category).sum + 14) R.locals = true) (hN : vs.length = N) (hk : k + 1 ≤ R.cells) (hsl : sl + N ≤ R.slots)
    (hr : J pc' Ls (.ref (n0 + G.length) :: S) (G ++ [(.inr ty, vs)]) (k + 1) (sl + N)) (hp : pc + 3 = pc' := by rfl) : J pc Ls (.ref (n0 + j) :: S) G k sl := by
  obtain ⟨p, e, s, m, args, below, meth, c, rfl, hx, hby, hml, hret, hlk, hnm, hZ, hown, hw, hS⟩ := W
  subst hp had
  intro T locs X hG hF
  obtain ⟨cl, A, hs, hlt, hfits, hcls⟩ := hG.2.2.2 j _ hO
  obtain ⟨c1, cC, g1, g2, g3⟩ := Cond.castable_spec (hw _ w6)
  cases hcls.symm.trans g1
  have hal : Z.vm.Alike T.vm := hZ.alike.trans X.warmed.alike
  have hsz' : cl.slots.size = N := by rw [← hN, ← hs]; simp
  have hFC := fitC_of A hs hfits
  obtain ⟨vm', X', st⟩ := X.cloneArray hx hown (mv hZ (hw _ w1)) (mv hZ (hw _ w2)) (mv hZ (hw _ w3)) (mv hZ (hw _ w4)) (mv hZ (hw _ w5)) (a := n0 + j) A.1 A.2.1.1 A.2.2 (by rw [hZ.alike.findClass]; exact hcls) (by rw [hZ.alike.findClass]; exact g2) (by rw [hZ.alike.assignable]; exact g3)
    (fun i v hv => by have q := hFC i v hv; rw [← State.fitsSlot_setVm hal] at q; exact q) (g := mkF m pc Ls.toArray (.ref (n0 + j) :: S)) rfl (by rw [hml, ← hsz]; simp) rfl (Jvm.hb hby hd) (Nat.le_of_ble_eq_true hf) (by show 2 * 0 + _ + 14 ≤ _; have := Nat.le_of_ble_eq_true hl; omega) hk (by rw [hsz']; exact hsl)
    (by obtain ⟨-, k2, hk2, comp, hkind⟩ := A.2.1; rw [hZ.alike.clonesLoader]; exact Vm.clonesLoader_of_array hk2 hkind)
  rw [hsz'] at X'
  have hE : Ext T.heap (T.heap.push (cloneOf cl)) := ext_of fun a q => Array.getElem?_push_lt q |>.trans (Array.getElem?_eq_getElem q).symm
  have hO' : ObjAt sig Z (T.heap.push (cloneOf cl)) T.heap.size (.inr ty, vs) := ⟨cloneOf cl, ⟨by simp, ⟨fun _ z => (by cases z), A.2.1.2⟩, fun z => (by cases z)⟩, hs, hlt, hfits, hcls⟩
  have hsz : T.heap.size = n0 + G.length := hG.2.2.1
  obtain ⟨t, o, st2, h⟩ := hr _ locs X' (Rep.push hG hE (by simp) hO') hF
  rw [hsz] at st
  exact ⟨t, o, st _ st2, h⟩
theorem Walk.castArr (W : Walk tab sig l Z a0 n0 own nm bytes maxL ret R Q J) {idx : Nat} {ty : FieldType} {vs : List Value} {K : String} (hd : decode bytes pc = .ok (.checkcast idx, 3)) (w1 : Jvm.Cond.classLink own idx K ∈ tab) (hO : G[j]? = some (.inr ty, vs)) (hK : "[" ++ ty.toString = K)
    (hr : J pc' Ls (.ref (n0 + j) :: S) G k sl) (hp : pc + 3 = pc' := by rfl) : J pc Ls (.ref (n0 + j) :: S) G k sl := by
  obtain ⟨p, e, s, m, args, below, meth, c, rfl, hx, hby, hml, hret, hlk, hnm, hZ, hown, hw, hS⟩ := W
  subst hp hK
  intro T locs X hG hF
  obtain ⟨cl, A, hs, hlt, hfits, hcls⟩ := hG.2.2.2 j _ hO
  obtain ⟨T', X', e', st⟩ := castY X hx hZ hown (hw _ w1) rfl (a := n0 + j) ⟨cl, cl.cls, A.1, hcls, by simp [A.plain, Vm.assignable_self]⟩ (g := mkF m pc Ls.toArray (.ref (n0 + j) :: S)) rfl rfl (Jvm.hb hby hd)
  obtain ⟨t, o, st2, h⟩ := hr T' locs X' (by rw [e']; exact hG) hF
  exact ⟨t, o, st _ st2, h⟩
theorem Walk.castObj (W : Walk tab sig l Z a0 n0 own nm bytes maxL ret R Q J) {idx ci n : Nat} {C K : String} {fs : List Fd} {vs : List Value} (hd : decode bytes pc = .ok (.checkcast idx, 3)) (w1 : Jvm.Cond.classLink own idx K ∈ tab) (hO : G[j]? = some (.inl ci, vs)) (hc : sig[ci]? = some (C, n, fs)) (w2 : Jvm.Cond.castable C K ∈ tab)
    (hr : J pc' Ls (.ref (n0 + j) :: S) G k sl) (hp : pc + 3 = pc' := by rfl) : J pc Ls (.ref (n0 + j) :: S) G k sl := by
  obtain ⟨p, e, s, m, args, below, meth, c, rfl, hx, hby, hml, hret, hlk, hnm, hZ, hown, hw, hS⟩ := W
  subst hp
  intro T locs X hG hF
  obtain ⟨C', n', fs', e1, E, hlen, F⟩ := hG.2.2.2 j _ hO
  cases hc.symm.trans e1
  obtain ⟨T', X', e', st⟩ := castY X hx hZ hown (hw _ w1) rfl (Ins.of_exa E (hw _ w2)) (g := mkF m pc Ls.toArray (.ref (n0 + j) :: S)) rfl rfl (Jvm.hb hby hd)
  obtain ⟨t, o, st2, h⟩ := hr T' locs X' (by rw [e']; exact hG) hF
  exact ⟨t, o, st _ st2, h⟩
/-! ## calls by their contracts -/
variable {y z : MethodName} {bytes' : ByteArray} {maxL' : Nat} {ret' : Option FieldType} {R' : Room} {as St : List Value} {Q' : Post}
theorem Walk.callStatic (W : Walk tab sig l Z a0 n0 own nm bytes maxL ret R Q J) {idx : Nat} (hd : decode bytes pc = .ok (.invokestatic idx, 3)) (w1 : Jvm.Cond.methodLink own idx y ∈ tab) (w2 : Jvm.Cond.static y ∈ tab) (w3 : Jvm.Cond.initialized y.cls ∈ tab) (w4 : Jvm.Cond.code y bytes' maxL' ret' ∈ tab)
    (hM : Meth sig l Z n0 y bytes' maxL' ret' R' as G Q') (hlen : ∀ sg, parseMethodDescriptor y.desc = some sg → as.length = sg.parameters.length) (hSt : St = as.reverse ++ S) (hsz : Ls.length = maxL) (hf : Nat.ble (R'.frames + 1) R.frames = true) (hl : Nat.ble ((S.map fun v => v.category).sum + (maxL' + 11) + R'.locals) R.locals = true)
    (hk : k + R'.cells ≤ R.cells) (hsl : sl + R'.slots ≤ R.slots) (hr : ∀ v G', Q' v G' → J pc' Ls (v.toList ++ S) G' (k + R'.cells) (sl + R'.slots)) (hp : pc + 3 = pc' := by rfl)
    (hy : y.cls ≠ "java/lang/invoke/MethodHandle" ∧ y.cls ≠ "java/lang/invoke/VarHandle" := by decide) : J pc Ls St G k sl := by
  obtain ⟨p, e, s, m, args, below, meth, c, rfl, hx, hby, hml, hret, hlk, hnm, hZ, hown, hw, hS⟩ := W
  subst hp hSt
  intro T locs X hG hF
  obtain ⟨v, vm₁, ⟨T', L', k', n'⟩, -, X', ⟨Lc, ⟨G', hG', hQ', hF'⟩, l1, y1, z1⟩, st⟩ := Jvm.LawKit.callS X hx (y := y) hown (mvT hZ (hw _ w1)) (mvT hZ (hw _ w2)) (mvT hZ (hw _ w3)) (mvT hZ (hw _ w4)) hy
    (backOf (W := (S.map fun v => v.category).sum) (Q := fun v h L => ∃ G', Rep sig Z n0 h G' ∧ Q' v G' ∧ Fr n0 L) (hM [] T.heap hG) hZ (hw _ w4) (hw _ w3) (Nat.le_of_ble_eq_true hf) (Nat.le_of_ble_eq_true hl))
    (g := mkF m pc Ls.toArray (as.reverse ++ S)) rfl (by rw [hml, ← hsz]; simp) (argsL := as) (rest := S) hlen rfl (by show 2 * 0 + _ ≤ _; omega) (Jvm.hb hby hd) (fun _ _ => ⟨rfl, rfl, hk, hsl⟩)
  dsimp only [Pt.U, Pt.locs, Pt.cells, Pt.slots] at X' l1 y1 z1 st hG'
  subst l1 y1 z1
  obtain ⟨t, o, st2, h⟩ := hr v G' hQ' T' _ X' hG' (Fr.app hF hF')
  exact ⟨t, o, st _ st2, h⟩
theorem Walk.callInit (W : Walk tab sig l Z a0 n0 own nm bytes maxL ret R Q J) {idx : Nat} {a : Addr} (hd : decode bytes pc = .ok (.invokespecial idx, 3)) (w1 : Jvm.Cond.methodLink own idx y ∈ tab) (w2 : Jvm.Cond.instanceMethod y ∈ tab) (w3 : Jvm.Cond.initialized y.cls ∈ tab) (w4 : Jvm.Cond.code y bytes' maxL' none ∈ tab)
    (hM : Meth sig l Z n0 y bytes' maxL' none R' (.ref a :: as) G Q') (hlen : ∀ sg, parseMethodDescriptor y.desc = some sg → as.length = sg.parameters.length) (hSt : St = as.reverse ++ .ref a :: S) (hsz : Ls.length = maxL) (hf : Nat.ble (R'.frames + 1) R.frames = true) (hl : Nat.ble ((S.map fun v => v.category).sum + (maxL' + 11) + R'.locals) R.locals = true)
    (hk : k + R'.cells ≤ R.cells) (hsl : sl + R'.slots ≤ R.slots) (hr : ∀ v G', Q' v G' → J pc' Ls (v.toList ++ S) G' (k + R'.cells) (sl + R'.slots)) (hp : pc + 3 = pc' := by rfl) (hy1 : y.name = "<init>" := by rfl)
    (hy : y.cls ≠ "java/lang/invoke/MethodHandle" ∧ y.cls ≠ "java/lang/invoke/VarHandle" := by decide) : J pc Ls St G k sl := by
  obtain ⟨p, e, s, m, args, below, meth, c, rfl, hx, hby, hml, hret, hlk, hnm, hZ, hown, hw, hS⟩ := W
  subst hp hSt
  intro T locs X hG hF
  obtain ⟨v, vm₁, ⟨T', L', k', n'⟩, -, X', ⟨Lc, ⟨G', hG', hQ', hF'⟩, l1, y1, z1⟩, st⟩ := X.specialBack hx (y := y) hy1 hown (mvT hZ (hw _ w1)) (mvT hZ (hw _ w2)) (mvT hZ (hw _ w4)) hy
    (backOf (W := (S.map fun v => v.category).sum) (Q := fun v h L => ∃ G', Rep sig Z n0 h G' ∧ Q' v G' ∧ Fr n0 L) (hM [] T.heap hG) hZ (hw _ w4) (hw _ w3) (Nat.le_of_ble_eq_true hf) (Nat.le_of_ble_eq_true hl))
    (g := mkF m pc Ls.toArray (as.reverse ++ .ref a :: S)) rfl (by rw [hml, ← hsz]; simp) (Steps.refl _) (a := a) (argsL := as) (rest := S) hlen rfl (by show 2 * 0 + _ ≤ _; omega) (Jvm.hb hby hd) (fun _ _ => ⟨rfl, rfl, hk, hsl⟩)
  dsimp only [Pt.U, Pt.locs, Pt.cells, Pt.slots] at X' l1 y1 z1 st hG'
  subst l1 y1 z1
  obtain ⟨t, o, st2, h⟩ := hr v G' hQ' T' _ X' hG' (Fr.app hF hF')
  exact ⟨t, o, st.trans st2, h⟩
theorem Walk.callVirtual (W : Walk tab sig l Z a0 n0 own nm bytes maxL ret R Q J) {idx ci n : Nat} {C : String} {fs : List Fd} {vs : List Value} (hd : decode bytes pc = .ok (.invokevirtual idx, 3)) (w1 : Jvm.Cond.methodLink own idx y ∈ tab) (w2 : Jvm.Cond.declares y ∈ tab) (w3 : Jvm.Cond.selects C y y ∈ tab) (w4 : Jvm.Cond.instanceMethod y ∈ tab) (w5 : Jvm.Cond.initialized y.cls ∈ tab) (w6 : Jvm.Cond.code y bytes' maxL' ret' ∈ tab)
    (hO : G[j]? = some (.inl ci, vs)) (hc : sig[ci]? = some (C, n, fs))
    (hM : Meth sig l Z n0 y bytes' maxL' ret' R' (.ref (n0 + j) :: as) G Q') (hlen : ∀ sg, parseMethodDescriptor y.desc = some sg → as.length = sg.parameters.length) (hSt : St = as.reverse ++ .ref (n0 + j) :: S) (hsz : Ls.length = maxL) (hf : Nat.ble (R'.frames + 1) R.frames = true) (hl : Nat.ble ((S.map fun v => v.category).sum + (maxL' + 11) + R'.locals) R.locals = true)
    (hk : k + R'.cells ≤ R.cells) (hsl : sl + R'.slots ≤ R.slots) (hr : ∀ v G', Q' v G' → J pc' Ls (v.toList ++ S) G' (k + R'.cells) (sl + R'.slots)) (hp : pc + 3 = pc' := by rfl)
    (hy : y.cls ≠ "java/lang/invoke/MethodHandle" ∧ y.cls ≠ "java/lang/invoke/VarHandle" := by decide) : J pc Ls St G k sl := by
  obtain ⟨p, e, s, m, args, below, meth, c, rfl, hx, hby, hml, hret, hlk, hnm, hZ, hown, hw, hS⟩ := W
  subst hp hSt
  intro T locs X hG hF
  obtain ⟨C', n', fs', e1, E, hlen', F⟩ := hG.2.2.2 j _ hO
  cases hc.symm.trans e1
  obtain ⟨cq, kq, qa, qb, qc⟩ := isOf hZ rfl E
  obtain ⟨v, vm₁, ⟨T', L', k', n'⟩, -, X', ⟨Lc, ⟨G', hG', hQ', hF'⟩, l1, y1, z1⟩, st⟩ := X.virtualBack hx (y := y) (z := y) hown (mvT hZ (hw _ w1)) (mvT hZ (hw _ w2)) (notFace_of_selects (args := #[]) (mvT hZ (hw _ w3))) (mvT hZ (hw _ w3)) (mvT hZ (hw _ w4)) hy
    (backOf (W := (S.map fun v => v.category).sum) (Q := fun v h L => ∃ G', Rep sig Z n0 h G' ∧ Q' v G' ∧ Fr n0 L) (hM [] T.heap hG) hZ (hw _ w6) (hw _ w5) (Nat.le_of_ble_eq_true hf) (Nat.le_of_ble_eq_true hl)) qa qc
    (g := mkF m pc Ls.toArray (as.reverse ++ .ref (n0 + j) :: S)) rfl (by rw [hml, ← hsz]; simp) (Steps.refl _) (argsL := as) (rest := S) hlen rfl (by show 2 * 0 + _ ≤ _; omega) (Jvm.hb hby hd) (fun _ _ => ⟨rfl, rfl, hk, hsl⟩)
  dsimp only [Pt.U, Pt.locs, Pt.cells, Pt.slots] at X' l1 y1 z1 st hG'
  subst l1 y1 z1
  obtain ⟨t, o, st2, h⟩ := hr v G' hQ' T' _ X' hG' (Fr.app hF hF')
  exact ⟨t, o, st.trans st2, h⟩
theorem Walk.callPrivate (W : Walk tab sig l Z a0 n0 own nm bytes maxL ret R Q J) {idx ci n : Nat} {fs : List Fd} {vs : List Value} (hd : decode bytes pc = .ok (.invokevirtual idx, 3)) (w1 : Jvm.Cond.methodLink own idx y ∈ tab) (w2 : Jvm.Cond.instanceMethod y ∈ tab) (w3 : Jvm.Cond.privateMethod y ∈ tab) (w5 : Jvm.Cond.initialized y.cls ∈ tab) (w6 : Jvm.Cond.code y bytes' maxL' ret' ∈ tab)
    (hO : G[j]? = some (.inl ci, vs)) (hc : sig[ci]? = some (y.cls, n, fs))
    (hM : Meth sig l Z n0 y bytes' maxL' ret' R' (.ref (n0 + j) :: as) G Q') (hlen : ∀ sg, parseMethodDescriptor y.desc = some sg → as.length = sg.parameters.length) (hSt : St = as.reverse ++ .ref (n0 + j) :: S) (hsz : Ls.length = maxL) (hf : Nat.ble (R'.frames + 1) R.frames = true) (hl : Nat.ble ((S.map fun v => v.category).sum + (maxL' + 11) + R'.locals) R.locals = true)
    (hk : k + R'.cells ≤ R.cells) (hsl : sl + R'.slots ≤ R.slots) (hr : ∀ v G', Q' v G' → J pc' Ls (v.toList ++ S) G' (k + R'.cells) (sl + R'.slots)) (hp : pc + 3 = pc' := by rfl)
    (hy : y.cls ≠ "java/lang/invoke/MethodHandle" ∧ y.cls ≠ "java/lang/invoke/VarHandle" := by decide) : J pc Ls St G k sl := by
  obtain ⟨p, e, s, m, args, below, meth, c, rfl, hx, hby, hml, hret, hlk, hnm, hZ, hown, hw, hS⟩ := W
  subst hp hSt
  intro T locs X hG hF
  obtain ⟨C', n', fs', e1, E, hlen', F⟩ := hG.2.2.2 j _ hO
  cases hc.symm.trans e1
  obtain ⟨cq, q1, q2⟩ := E.cell
  have hpv : s.PrivateAt y := Cond.privateMethod_at (mvP hZ (hw _ w3) (args := #[]))
  have hin : (Jvm.Cond.instanceMethod y).before args s = true := mvT hZ (hw _ w2)
  have wi : (Jvm.Cond.instantiable y.cls n).before args s = true := mvT hZ (hw _ (hS ci _ n fs hc).1)
  obtain ⟨cc, kc, i1, i2, i3, i4, -⟩ := Cond.instantiable_spec wi
  have i5 : kc.isInterface = false := by
    cases hq : kc.isInterface with
    | false => rfl
    | true => rw [hq] at i4; cases i4
  obtain ⟨v, vm₁, ⟨T', L', k', n'⟩, -, X', ⟨Lc, ⟨G', hG', hQ', hF'⟩, l1, y1, z1⟩, st⟩ := X.privateBack hx (y := y) hown (mvT hZ (hw _ w1)) hin (selects_self_of_private i1 i2 i5 hpv hin hy) hpv (mvT hZ (hw _ w6)) hy
    (backOf (W := (S.map fun v => v.category).sum) (Q := fun v h L => ∃ G', Rep sig Z n0 h G' ∧ Q' v G' ∧ Fr n0 L) (hM [] T.heap hG) hZ (hw _ w6) (hw _ w5) (Nat.le_of_ble_eq_true hf) (Nat.le_of_ble_eq_true hl))
    (g := mkF m pc Ls.toArray (as.reverse ++ .ref (n0 + j) :: S)) rfl (by rw [hml, ← hsz]; simp) (Steps.refl _) q1 q2 (argsL := as) (rest := S) hlen rfl (by show 2 * 0 + _ ≤ _; omega) (Jvm.hb hby hd) (fun _ _ => ⟨rfl, rfl, hk, hsl⟩)
  dsimp only [Pt.U, Pt.locs, Pt.cells, Pt.slots] at X' l1 y1 z1 st hG'
  subst l1 y1 z1
  obtain ⟨t, o, st2, h⟩ := hr v G' hQ' T' _ X' hG' (Fr.app hF hF')
  exact ⟨t, o, st.trans st2, h⟩
/-! ## returns -/
theorem Walk.retV {t : FieldType} (W : Walk tab sig l Z a0 n0 own nm bytes maxL (some t) R Q J) {i : Instr} (hd : decode bytes pc = .ok (i, 1)) (hn : narrow t v = v)
    (hi : (i = .ireturn ∧ (t = .int ∨ t = .boolean ∨ t = .byte ∨ t = .char ∨ t = .short) ∧ ∃ z, v = .int z) ∨ (i = .lreturn ∧ t = .long ∧ ∃ z, v = .long z) ∨ (i = .dreturn ∧ t = .double ∧ ∃ z, v = .double z) ∨ (i = .freturn ∧ t = .float ∧ ∃ z, v = .float z) ∨ (i = .areturn ∧ t.isReference = true ∧ v.isRef = true))
    (hk : k ≤ R.cells) (hsl : sl ≤ R.slots) (hq : Q (some v) G) : J pc Ls (v :: S) G k sl := by
  obtain ⟨p, e, s, m, args, below, meth, c, rfl, hx, hby, hml, hret, hlk, hnm, hZ, hown, hw, hS⟩ := W
  intro T locs X hG hF
  obtain ⟨fs, hr, hrun, hended, hW, hsame⟩ := X.leave (v := some v) (fun h => by rw [hret] at h; cases h) hlk
  exact ⟨_, _, retOut X hx hret hn hi (Jvm.hb hby hd) hr, hrun, hended, _, _, rfl, ⟨G, hG, hq, hF⟩, ⟨_, rfl⟩, hW, hsame.mono hk hsl⟩
theorem Walk.ireturn (W : Walk tab sig l Z a0 n0 own nm bytes maxL (some .int) R Q J) {z : Int32} (hd : decode bytes pc = .ok (.ireturn, 1)) (hk : k ≤ R.cells) (hsl : sl ≤ R.slots) (hq : Q (some (.int z)) G) : J pc Ls (.int z :: S) G k sl :=
  W.retV hd rfl (Or.inl ⟨rfl, Or.inl rfl, z, rfl⟩) hk hsl hq
theorem Walk.zreturn (W : Walk tab sig l Z a0 n0 own nm bytes maxL (some .boolean) R Q J) {z : Int32} (hd : decode bytes pc = .ok (.ireturn, 1)) (hz : z = 0 ∨ z = 1) (hk : k ≤ R.cells) (hsl : sl ≤ R.slots) (hq : Q (some (.int z)) G) : J pc Ls (.int z :: S) G k sl :=
  W.retV hd (by rcases hz with rfl | rfl <;> rfl) (Or.inl ⟨rfl, Or.inr (Or.inl rfl), z, rfl⟩) hk hsl hq
theorem Walk.lreturn (W : Walk tab sig l Z a0 n0 own nm bytes maxL (some .long) R Q J) {z : Int64} (hd : decode bytes pc = .ok (.lreturn, 1)) (hk : k ≤ R.cells) (hsl : sl ≤ R.slots) (hq : Q (some (.long z)) G) : J pc Ls (.long z :: S) G k sl :=
  W.retV hd rfl (Or.inr (Or.inl ⟨rfl, rfl, z, rfl⟩)) hk hsl hq
theorem Walk.areturn {t : FieldType} (W : Walk tab sig l Z a0 n0 own nm bytes maxL (some t) R Q J) (hd : decode bytes pc = .ok (.areturn, 1)) (ht : t.isReference = true) (hv : v.isRef = true) (hk : k ≤ R.cells) (hsl : sl ≤ R.slots) (hq : Q (some v) G) : J pc Ls (v :: S) G k sl :=
  W.retV hd (by rcases ref_cases hv with rfl | ⟨a, rfl⟩ <;> cases t <;> rfl) (Or.inr (Or.inr (Or.inr (Or.inr ⟨rfl, ht, hv⟩)))) hk hsl hq
theorem Walk.return_ (W : Walk tab sig l Z a0 n0 own nm bytes maxL none R Q J) (hd : decode bytes pc = .ok (.return_, 1)) (hk : k ≤ R.cells) (hsl : sl ≤ R.slots) (hq : Q none G) : J pc Ls [] G k sl := by
  obtain ⟨p, e, s, m, args, below, meth, c, rfl, hx, hby, hml, hret, hlk, hnm, hZ, hown, hw, hS⟩ := W
  intro T locs X hG hF
  obtain ⟨fs, hr, hrun, hended, hW, hsame⟩ := X.leave (v := none) (fun _ => rfl) hlk
  exact ⟨_, _, X.returnOut hx hret (Jvm.hb hby hd) hr, hrun, hended, _, _, rfl, ⟨G, hG, hq, hF⟩, ⟨_, rfl⟩, hW, hsame.mono hk hsl⟩
end Heap
end Jvm.OwnWP
namespace Jvm.Pilot.@@N@@
open Jvm Jvm.ClassFile Sem Op Lib Jvm.Free Jvm.Stand Jvm.LawKit Jvm.RoadKit Bundle Jvm.OwnWP Jvm.Pilot.@@N@@.Jvm.D
theorem pn_prog_63_method_1_code : plainFor (⟨"com/example/millrace/millrace/datadir/StepPace", "<init>", "(IJI)V"⟩ : MethodName) = true := by first | exact plainFor_of_name (by first | (simp [plainName, overriddenIn]; done) | decide +kernel) | decide +kernel
theorem pn_prog_63_method_3_code : plainFor (⟨"com/example/millrace/millrace/datadir/StepPace", "next", "(JZ)J"⟩ : MethodName) = true := by first | exact plainFor_of_name (by first | (simp [plainName, overriddenIn]; done) | decide +kernel) | decide +kernel
theorem pn_jdk_29_method_65_code : plainFor (⟨"java/lang/Math", "max", "(II)I"⟩ : MethodName) = true := by first | exact plainFor_of_name (by first | (simp [plainName, overriddenIn]; done) | decide +kernel) | decide +kernel
theorem pn_prog_63_method_2_code : plainFor (⟨"com/example/millrace/millrace/datadir/StepPace", "restart", "()V"⟩ : MethodName) = true := by first | exact plainFor_of_name (by first | (simp [plainName, overriddenIn]; done) | decide +kernel) | decide +kernel
theorem pn_prog_65_method_2_code : plainFor (⟨"com/example/millrace/millrace/datadir/WarmUp", "part", "(JJJ)J"⟩ : MethodName) = true := by first | exact plainFor_of_name (by first | (simp [plainName, overriddenIn]; done) | decide +kernel) | decide +kernel
theorem pn_jdk_29_method_66_code : plainFor (⟨"java/lang/Math", "max", "(JJ)J"⟩ : MethodName) = true := by first | exact plainFor_of_name (by first | (simp [plainName, overriddenIn]; done) | decide +kernel) | decide +kernel
theorem pn_jdk_29_method_70_code : plainFor (⟨"java/lang/Math", "min", "(JJ)J"⟩ : MethodName) = true := by first | exact plainFor_of_name (by first | (simp [plainName, overriddenIn]; done) | decide +kernel) | decide +kernel
theorem pn_method_3_code : plainFor (⟨"com/example/millrace/millrace/datadir/StepPaceRestartPinLaw", "expected", "(IJIJJ)J"⟩ : MethodName) = true := by first | exact plainFor_of_name (by first | (simp [plainName, overriddenIn]; done) | decide +kernel) | decide +kernel
theorem pn_code : plainFor x = true := by first | exact plainFor_of_name (by first | (simp [plainName, overriddenIn]; done) | decide +kernel) | decide +kernel
def sg : Sig := [("com/example/millrace/millrace/datadir/StepPace", 7, [("com/example/millrace/millrace/datadir/StepPace", "calls", "I", .int), ("com/example/millrace/millrace/datadir/StepPace", "stepBytes", "J", .long), ("com/example/millrace/millrace/datadir/StepPace", "ratio", "I", .int), ("com/example/millrace/millrace/datadir/StepPace", "callsLeft", "I", .int), ("com/example/millrace/millrace/datadir/StepPace", "owedByBatches", "J", .long), ("com/example/millrace/millrace/datadir/StepPace", "owedByValues", "J", .long), ("com/example/millrace/millrace/datadir/StepPace", "stepped", "J", .long)])]
theorem sgOk : SigOk tables_1 sg := by
  intro ci C n fs h
  cases ci with
  | zero =>
    cases h
    refine ⟨(tw 1 rfl), ?_, by decide⟩
    intro f hf
    simp only [List.mem_cons, List.not_mem_nil, or_false] at hf
    rcases hf with rfl | rfl | rfl | rfl | rfl | rfl | rfl
    · exact ⟨Or.inr (tw 10 rfl), by decide⟩
    · exact ⟨Or.inr (tw 12 rfl), by decide⟩
    · exact ⟨Or.inr (tw 14 rfl), by decide⟩
    · exact ⟨Or.inl (tw 16 rfl), by decide⟩
    · exact ⟨Or.inl (tw 27 rfl), by decide⟩
    · exact ⟨Or.inl (tw 34 rfl), by decide⟩
    · exact ⟨Or.inl (tw 36 rfl), by decide⟩
  | succ ci =>
    cases h
theorem pd0 : parseMethodDescriptor "(JJ)J" = some ⟨[.long, .long], some .long⟩ := by decide +kernel
theorem pd1 : parseMethodDescriptor "(II)I" = some ⟨[.int, .int], some .int⟩ := by decide +kernel
theorem pd2 : parseMethodDescriptor "(JJJ)J" = some ⟨[.long, .long, .long], some .long⟩ := by decide +kernel
theorem pd3 : parseMethodDescriptor "(IJI)V" = some ⟨[.int, .long, .int], none⟩ := by decide +kernel
theorem pd4 : parseMethodDescriptor "(JZ)J" = some ⟨[.long, .boolean], some .long⟩ := by decide +kernel
theorem pd5 : parseMethodDescriptor "()V" = some ⟨[], none⟩ := by decide +kernel
theorem pd6 : parseMethodDescriptor "(IJIJJ)J" = some ⟨[.int, .long, .int, .long, .long], some .long⟩ := by decide +kernel
theorem d_prog_63_method_1_code_0 : decode prog_63_method_1_code 0 = .ok (.aload_n 0, 1) := by decide +kernel
theorem d_prog_63_method_1_code_1 : decode prog_63_method_1_code 1 = .ok (.invokespecial 1, 3) := by decide +kernel
theorem d_prog_63_method_1_code_4 : decode prog_63_method_1_code 4 = .ok (.aload_n 0, 1) := by decide +kernel
theorem d_prog_63_method_1_code_5 : decode prog_63_method_1_code 5 = .ok (.iload_n 1, 1) := by decide +kernel
theorem d_prog_63_method_1_code_6 : decode prog_63_method_1_code 6 = .ok (.putfield 7, 3) := by decide +kernel
theorem d_prog_63_method_1_code_9 : decode prog_63_method_1_code 9 = .ok (.aload_n 0, 1) := by decide +kernel
theorem d_prog_63_method_1_code_10 : decode prog_63_method_1_code 10 = .ok (.lload_n 2, 1) := by decide +kernel
theorem d_prog_63_method_1_code_11 : decode prog_63_method_1_code 11 = .ok (.putfield 13, 3) := by decide +kernel
theorem d_prog_63_method_1_code_14 : decode prog_63_method_1_code 14 = .ok (.aload_n 0, 1) := by decide +kernel
theorem d_prog_63_method_1_code_15 : decode prog_63_method_1_code 15 = .ok (.iload 4, 2) := by decide +kernel
theorem d_prog_63_method_1_code_17 : decode prog_63_method_1_code 17 = .ok (.putfield 17, 3) := by decide +kernel
theorem d_prog_63_method_1_code_20 : decode prog_63_method_1_code 20 = .ok (.aload_n 0, 1) := by decide +kernel
theorem d_prog_63_method_1_code_21 : decode prog_63_method_1_code 21 = .ok (.iload_n 1, 1) := by decide +kernel
theorem d_prog_63_method_1_code_22 : decode prog_63_method_1_code 22 = .ok (.putfield 20, 3) := by decide +kernel
theorem d_prog_63_method_1_code_25 : decode prog_63_method_1_code 25 = .ok (.return_, 1) := by decide +kernel
theorem d_prog_63_method_3_code_0 : decode prog_63_method_3_code 0 = .ok (.aload_n 0, 1) := by decide +kernel
theorem d_prog_63_method_3_code_1 : decode prog_63_method_3_code 1 = .ok (.getfield 17, 3) := by decide +kernel
theorem d_prog_63_method_3_code_4 : decode prog_63_method_3_code 4 = .ok (.i2l, 1) := by decide +kernel
theorem d_prog_63_method_3_code_5 : decode prog_63_method_3_code 5 = .ok (.lload_n 1, 1) := by decide +kernel
theorem d_prog_63_method_3_code_6 : decode prog_63_method_3_code 6 = .ok (.lmul, 1) := by decide +kernel
theorem d_prog_63_method_3_code_7 : decode prog_63_method_3_code 7 = .ok (.lstore 4, 2) := by decide +kernel
theorem d_prog_63_method_3_code_9 : decode prog_63_method_3_code 9 = .ok (.aload_n 0, 1) := by decide +kernel
theorem d_prog_63_method_3_code_10 : decode prog_63_method_3_code 10 = .ok (.iconst 0, 1) := by decide +kernel
theorem d_prog_63_method_3_code_11 : decode prog_63_method_3_code 11 = .ok (.aload_n 0, 1) := by decide +kernel
theorem d_prog_63_method_3_code_12 : decode prog_63_method_3_code 12 = .ok (.getfield 20, 3) := by decide +kernel
theorem d_prog_63_method_3_code_15 : decode prog_63_method_3_code 15 = .ok (.iconst 1, 1) := by decide +kernel
theorem d_prog_63_method_3_code_16 : decode prog_63_method_3_code 16 = .ok (.isub, 1) := by decide +kernel
theorem d_prog_63_method_3_code_17 : decode prog_63_method_3_code 17 = .ok (.invokestatic 29, 3) := by decide +kernel
theorem d_prog_63_method_3_code_20 : decode prog_63_method_3_code 20 = .ok (.putfield 20, 3) := by decide +kernel
theorem d_prog_63_method_3_code_23 : decode prog_63_method_3_code 23 = .ok (.iload_n 3, 1) := by decide +kernel
theorem d_prog_63_method_3_code_24 : decode prog_63_method_3_code 24 = .ok (.ifCond .eq 16, 3) := by decide +kernel
theorem d_prog_63_method_3_code_27 : decode prog_63_method_3_code 27 = .ok (.aload_n 0, 1) := by decide +kernel
theorem d_prog_63_method_3_code_28 : decode prog_63_method_3_code 28 = .ok (.dup, 1) := by decide +kernel
theorem d_prog_63_method_3_code_29 : decode prog_63_method_3_code 29 = .ok (.getfield 23, 3) := by decide +kernel
theorem d_prog_63_method_3_code_32 : decode prog_63_method_3_code 32 = .ok (.lload 4, 2) := by decide +kernel
theorem d_prog_63_method_3_code_34 : decode prog_63_method_3_code 34 = .ok (.ladd, 1) := by decide +kernel
theorem d_prog_63_method_3_code_35 : decode prog_63_method_3_code 35 = .ok (.putfield 23, 3) := by decide +kernel
theorem d_prog_63_method_3_code_38 : decode prog_63_method_3_code 38 = .ok (.lconst 0, 1) := by decide +kernel
theorem d_prog_63_method_3_code_39 : decode prog_63_method_3_code 39 = .ok (.lreturn, 1) := by decide +kernel
theorem d_prog_63_method_3_code_40 : decode prog_63_method_3_code 40 = .ok (.aload_n 0, 1) := by decide +kernel
theorem d_prog_63_method_3_code_41 : decode prog_63_method_3_code 41 = .ok (.dup, 1) := by decide +kernel
theorem d_prog_63_method_3_code_42 : decode prog_63_method_3_code 42 = .ok (.getfield 26, 3) := by decide +kernel
theorem d_prog_63_method_3_code_45 : decode prog_63_method_3_code 45 = .ok (.lload 4, 2) := by decide +kernel
theorem d_prog_63_method_3_code_47 : decode prog_63_method_3_code 47 = .ok (.ladd, 1) := by decide +kernel
theorem d_prog_63_method_3_code_48 : decode prog_63_method_3_code 48 = .ok (.putfield 26, 3) := by decide +kernel
theorem d_prog_63_method_3_code_51 : decode prog_63_method_3_code 51 = .ok (.aload_n 0, 1) := by decide +kernel
theorem d_prog_63_method_3_code_52 : decode prog_63_method_3_code 52 = .ok (.getfield 35, 3) := by decide +kernel
theorem d_prog_63_method_3_code_55 : decode prog_63_method_3_code 55 = .ok (.aload_n 0, 1) := by decide +kernel
theorem d_prog_63_method_3_code_56 : decode prog_63_method_3_code 56 = .ok (.getfield 13, 3) := by decide +kernel
theorem d_prog_63_method_3_code_59 : decode prog_63_method_3_code 59 = .ok (.ldc2_w 38, 3) := by decide +kernel
theorem d_prog_63_method_3_code_62 : decode prog_63_method_3_code 62 = .ok (.ldiv, 1) := by decide +kernel
theorem d_prog_63_method_3_code_63 : decode prog_63_method_3_code 63 = .ok (.aload_n 0, 1) := by decide +kernel
theorem d_prog_63_method_3_code_64 : decode prog_63_method_3_code 64 = .ok (.getfield 13, 3) := by decide +kernel
theorem d_prog_63_method_3_code_67 : decode prog_63_method_3_code 67 = .ok (.invokestatic 40, 3) := by decide +kernel
theorem d_prog_63_method_3_code_70 : decode prog_63_method_3_code 70 = .ok (.lstore 6, 2) := by decide +kernel
theorem d_prog_63_method_3_code_72 : decode prog_63_method_3_code 72 = .ok (.lconst 0, 1) := by decide +kernel
theorem d_prog_63_method_3_code_73 : decode prog_63_method_3_code 73 = .ok (.lstore 8, 2) := by decide +kernel
theorem d_prog_63_method_3_code_75 : decode prog_63_method_3_code 75 = .ok (.aload_n 0, 1) := by decide +kernel
theorem d_prog_63_method_3_code_76 : decode prog_63_method_3_code 76 = .ok (.getfield 20, 3) := by decide +kernel
theorem d_prog_63_method_3_code_79 : decode prog_63_method_3_code 79 = .ok (.ifCond .eq 22, 3) := by decide +kernel
theorem d_prog_63_method_3_code_82 : decode prog_63_method_3_code 82 = .ok (.aload_n 0, 1) := by decide +kernel
theorem d_prog_63_method_3_code_83 : decode prog_63_method_3_code 83 = .ok (.getfield 23, 3) := by decide +kernel
theorem d_prog_63_method_3_code_86 : decode prog_63_method_3_code 86 = .ok (.lconst 0, 1) := by decide +kernel
theorem d_prog_63_method_3_code_87 : decode prog_63_method_3_code 87 = .ok (.lcmp, 1) := by decide +kernel
theorem d_prog_63_method_3_code_88 : decode prog_63_method_3_code 88 = .ok (.ifCond .gt 13, 3) := by decide +kernel
theorem d_prog_63_method_3_code_91 : decode prog_63_method_3_code 91 = .ok (.aload_n 0, 1) := by decide +kernel
theorem d_prog_63_method_3_code_92 : decode prog_63_method_3_code 92 = .ok (.getfield 26, 3) := by decide +kernel
theorem d_prog_63_method_3_code_95 : decode prog_63_method_3_code 95 = .ok (.lload 6, 2) := by decide +kernel
theorem d_prog_63_method_3_code_97 : decode prog_63_method_3_code 97 = .ok (.lcmp, 1) := by decide +kernel
theorem d_prog_63_method_3_code_98 : decode prog_63_method_3_code 98 = .ok (.ifCond .lt 53, 3) := by decide +kernel
theorem d_prog_63_method_3_code_101 : decode prog_63_method_3_code 101 = .ok (.lload 6, 2) := by decide +kernel
theorem d_prog_63_method_3_code_103 : decode prog_63_method_3_code 103 = .ok (.aload_n 0, 1) := by decide +kernel
theorem d_prog_63_method_3_code_104 : decode prog_63_method_3_code 104 = .ok (.getfield 26, 3) := by decide +kernel
theorem d_prog_63_method_3_code_107 : decode prog_63_method_3_code 107 = .ok (.invokestatic 46, 3) := by decide +kernel
theorem d_prog_63_method_3_code_110 : decode prog_63_method_3_code 110 = .ok (.lstore 8, 2) := by decide +kernel
theorem d_prog_63_method_3_code_112 : decode prog_63_method_3_code 112 = .ok (.aload_n 0, 1) := by decide +kernel
theorem d_prog_63_method_3_code_113 : decode prog_63_method_3_code 113 = .ok (.lconst 0, 1) := by decide +kernel
theorem d_prog_63_method_3_code_114 : decode prog_63_method_3_code 114 = .ok (.putfield 26, 3) := by decide +kernel
theorem d_prog_63_method_3_code_117 : decode prog_63_method_3_code 117 = .ok (.aload_n 0, 1) := by decide +kernel
theorem d_prog_63_method_3_code_118 : decode prog_63_method_3_code 118 = .ok (.lconst 0, 1) := by decide +kernel
theorem d_prog_63_method_3_code_119 : decode prog_63_method_3_code 119 = .ok (.aload_n 0, 1) := by decide +kernel
theorem d_prog_63_method_3_code_120 : decode prog_63_method_3_code 120 = .ok (.getfield 23, 3) := by decide +kernel
theorem d_prog_63_method_3_code_123 : decode prog_63_method_3_code 123 = .ok (.lload 6, 2) := by decide +kernel
theorem d_prog_63_method_3_code_125 : decode prog_63_method_3_code 125 = .ok (.lsub, 1) := by decide +kernel
theorem d_prog_63_method_3_code_126 : decode prog_63_method_3_code 126 = .ok (.invokestatic 46, 3) := by decide +kernel
theorem d_prog_63_method_3_code_129 : decode prog_63_method_3_code 129 = .ok (.putfield 23, 3) := by decide +kernel
theorem d_prog_63_method_3_code_132 : decode prog_63_method_3_code 132 = .ok (.aload_n 0, 1) := by decide +kernel
theorem d_prog_63_method_3_code_133 : decode prog_63_method_3_code 133 = .ok (.aload_n 0, 1) := by decide +kernel
theorem d_prog_63_method_3_code_134 : decode prog_63_method_3_code 134 = .ok (.getfield 7, 3) := by decide +kernel
theorem d_prog_63_method_3_code_137 : decode prog_63_method_3_code 137 = .ok (.putfield 20, 3) := by decide +kernel
theorem d_prog_63_method_3_code_140 : decode prog_63_method_3_code 140 = .ok (.aload_n 0, 1) := by decide +kernel
theorem d_prog_63_method_3_code_141 : decode prog_63_method_3_code 141 = .ok (.dup, 1) := by decide +kernel
theorem d_prog_63_method_3_code_142 : decode prog_63_method_3_code 142 = .ok (.getfield 35, 3) := by decide +kernel
theorem d_prog_63_method_3_code_145 : decode prog_63_method_3_code 145 = .ok (.lload 8, 2) := by decide +kernel
theorem d_prog_63_method_3_code_147 : decode prog_63_method_3_code 147 = .ok (.ladd, 1) := by decide +kernel
theorem d_prog_63_method_3_code_148 : decode prog_63_method_3_code 148 = .ok (.putfield 35, 3) := by decide +kernel
theorem d_prog_63_method_3_code_151 : decode prog_63_method_3_code 151 = .ok (.lload 8, 2) := by decide +kernel
theorem d_prog_63_method_3_code_153 : decode prog_63_method_3_code 153 = .ok (.lreturn, 1) := by decide +kernel
theorem d_jdk_29_method_65_code_0 : decode jdk_29_method_65_code 0 = .ok (.iload_n 0, 1) := by decide +kernel
theorem d_jdk_29_method_65_code_1 : decode jdk_29_method_65_code 1 = .ok (.iload_n 1, 1) := by decide +kernel
theorem d_jdk_29_method_65_code_2 : decode jdk_29_method_65_code 2 = .ok (.if_icmp .lt 7, 3) := by decide +kernel
theorem d_jdk_29_method_65_code_5 : decode jdk_29_method_65_code 5 = .ok (.iload_n 0, 1) := by decide +kernel
theorem d_jdk_29_method_65_code_6 : decode jdk_29_method_65_code 6 = .ok (.goto 4, 3) := by decide +kernel
theorem d_jdk_29_method_65_code_9 : decode jdk_29_method_65_code 9 = .ok (.iload_n 1, 1) := by decide +kernel
theorem d_jdk_29_method_65_code_10 : decode jdk_29_method_65_code 10 = .ok (.ireturn, 1) := by decide +kernel
theorem d_prog_63_method_2_code_0 : decode prog_63_method_2_code 0 = .ok (.aload_n 0, 1) := by decide +kernel
theorem d_prog_63_method_2_code_1 : decode prog_63_method_2_code 1 = .ok (.aload_n 0, 1) := by decide +kernel
theorem d_prog_63_method_2_code_2 : decode prog_63_method_2_code 2 = .ok (.getfield 7, 3) := by decide +kernel
theorem d_prog_63_method_2_code_5 : decode prog_63_method_2_code 5 = .ok (.putfield 20, 3) := by decide +kernel
theorem d_prog_63_method_2_code_8 : decode prog_63_method_2_code 8 = .ok (.aload_n 0, 1) := by decide +kernel
theorem d_prog_63_method_2_code_9 : decode prog_63_method_2_code 9 = .ok (.lconst 0, 1) := by decide +kernel
theorem d_prog_63_method_2_code_10 : decode prog_63_method_2_code 10 = .ok (.putfield 23, 3) := by decide +kernel
theorem d_prog_63_method_2_code_13 : decode prog_63_method_2_code 13 = .ok (.aload_n 0, 1) := by decide +kernel
theorem d_prog_63_method_2_code_14 : decode prog_63_method_2_code 14 = .ok (.lconst 0, 1) := by decide +kernel
theorem d_prog_63_method_2_code_15 : decode prog_63_method_2_code 15 = .ok (.putfield 26, 3) := by decide +kernel
theorem d_prog_63_method_2_code_18 : decode prog_63_method_2_code 18 = .ok (.return_, 1) := by decide +kernel
theorem d_prog_65_method_2_code_0 : decode prog_65_method_2_code 0 = .ok (.lload 4, 2) := by decide +kernel
theorem d_prog_65_method_2_code_2 : decode prog_65_method_2_code 2 = .ok (.lload_n 2, 1) := by decide +kernel
theorem d_prog_65_method_2_code_3 : decode prog_65_method_2_code 3 = .ok (.lload_n 0, 1) := by decide +kernel
theorem d_prog_65_method_2_code_4 : decode prog_65_method_2_code 4 = .ok (.ldc2_w 9, 3) := by decide +kernel
theorem d_prog_65_method_2_code_7 : decode prog_65_method_2_code 7 = .ok (.ldiv, 1) := by decide +kernel
theorem d_prog_65_method_2_code_8 : decode prog_65_method_2_code 8 = .ok (.invokestatic 11, 3) := by decide +kernel
theorem d_prog_65_method_2_code_11 : decode prog_65_method_2_code 11 = .ok (.invokestatic 17, 3) := by decide +kernel
theorem d_prog_65_method_2_code_14 : decode prog_65_method_2_code 14 = .ok (.lreturn, 1) := by decide +kernel
theorem d_jdk_29_method_66_code_0 : decode jdk_29_method_66_code 0 = .ok (.lload_n 0, 1) := by decide +kernel
theorem d_jdk_29_method_66_code_1 : decode jdk_29_method_66_code 1 = .ok (.lload_n 2, 1) := by decide +kernel
theorem d_jdk_29_method_66_code_2 : decode jdk_29_method_66_code 2 = .ok (.lcmp, 1) := by decide +kernel
theorem d_jdk_29_method_66_code_3 : decode jdk_29_method_66_code 3 = .ok (.ifCond .lt 7, 3) := by decide +kernel
theorem d_jdk_29_method_66_code_6 : decode jdk_29_method_66_code 6 = .ok (.lload_n 0, 1) := by decide +kernel
theorem d_jdk_29_method_66_code_7 : decode jdk_29_method_66_code 7 = .ok (.goto 4, 3) := by decide +kernel
theorem d_jdk_29_method_66_code_10 : decode jdk_29_method_66_code 10 = .ok (.lload_n 2, 1) := by decide +kernel
theorem d_jdk_29_method_66_code_11 : decode jdk_29_method_66_code 11 = .ok (.lreturn, 1) := by decide +kernel
theorem d_jdk_29_method_70_code_0 : decode jdk_29_method_70_code 0 = .ok (.lload_n 0, 1) := by decide +kernel
theorem d_jdk_29_method_70_code_1 : decode jdk_29_method_70_code 1 = .ok (.lload_n 2, 1) := by decide +kernel
theorem d_jdk_29_method_70_code_2 : decode jdk_29_method_70_code 2 = .ok (.lcmp, 1) := by decide +kernel
theorem d_jdk_29_method_70_code_3 : decode jdk_29_method_70_code 3 = .ok (.ifCond .gt 7, 3) := by decide +kernel
theorem d_jdk_29_method_70_code_6 : decode jdk_29_method_70_code 6 = .ok (.lload_n 0, 1) := by decide +kernel
theorem d_jdk_29_method_70_code_7 : decode jdk_29_method_70_code 7 = .ok (.goto 4, 3) := by decide +kernel
theorem d_jdk_29_method_70_code_10 : decode jdk_29_method_70_code 10 = .ok (.lload_n 2, 1) := by decide +kernel
theorem d_jdk_29_method_70_code_11 : decode jdk_29_method_70_code 11 = .ok (.lreturn, 1) := by decide +kernel
theorem d_method_3_code_0 : decode method_3_code 0 = .ok (.iload_n 3, 1) := by decide +kernel
theorem d_method_3_code_1 : decode method_3_code 1 = .ok (.i2l, 1) := by decide +kernel
theorem d_method_3_code_2 : decode method_3_code 2 = .ok (.lload 6, 2) := by decide +kernel
theorem d_method_3_code_4 : decode method_3_code 4 = .ok (.lmul, 1) := by decide +kernel
theorem d_method_3_code_5 : decode method_3_code 5 = .ok (.lstore 8, 2) := by decide +kernel
theorem d_method_3_code_7 : decode method_3_code 7 = .ok (.iconst 0, 1) := by decide +kernel
theorem d_method_3_code_8 : decode method_3_code 8 = .ok (.iload_n 0, 1) := by decide +kernel
theorem d_method_3_code_9 : decode method_3_code 9 = .ok (.iconst 1, 1) := by decide +kernel
theorem d_method_3_code_10 : decode method_3_code 10 = .ok (.isub, 1) := by decide +kernel
theorem d_method_3_code_11 : decode method_3_code 11 = .ok (.invokestatic 25, 3) := by decide +kernel
theorem d_method_3_code_14 : decode method_3_code 14 = .ok (.istore 10, 2) := by decide +kernel
theorem d_method_3_code_16 : decode method_3_code 16 = .ok (.lload_n 1, 1) := by decide +kernel
theorem d_method_3_code_17 : decode method_3_code 17 = .ok (.ldc2_w 31, 3) := by decide +kernel
theorem d_method_3_code_20 : decode method_3_code 20 = .ok (.ldiv, 1) := by decide +kernel
theorem d_method_3_code_21 : decode method_3_code 21 = .ok (.lstore 11, 2) := by decide +kernel
theorem d_method_3_code_23 : decode method_3_code 23 = .ok (.lload 4, 2) := by decide +kernel
theorem d_method_3_code_25 : decode method_3_code 25 = .ok (.ldc2_w 33, 3) := by decide +kernel
theorem d_method_3_code_28 : decode method_3_code 28 = .ok (.ldiv, 1) := by decide +kernel
theorem d_method_3_code_29 : decode method_3_code 29 = .ok (.lstore 13, 2) := by decide +kernel
theorem d_method_3_code_31 : decode method_3_code 31 = .ok (.lload_n 1, 1) := by decide +kernel
theorem d_method_3_code_32 : decode method_3_code 32 = .ok (.lload 11, 2) := by decide +kernel
theorem d_method_3_code_34 : decode method_3_code 34 = .ok (.lload 13, 2) := by decide +kernel
theorem d_method_3_code_36 : decode method_3_code 36 = .ok (.invokestatic 35, 3) := by decide +kernel
theorem d_method_3_code_39 : decode method_3_code 39 = .ok (.invokestatic 38, 3) := by decide +kernel
theorem d_method_3_code_42 : decode method_3_code 42 = .ok (.lstore 15, 2) := by decide +kernel
theorem d_method_3_code_44 : decode method_3_code 44 = .ok (.iload 10, 2) := by decide +kernel
theorem d_method_3_code_46 : decode method_3_code 46 = .ok (.ifCond .eq 11, 3) := by decide +kernel
theorem d_method_3_code_49 : decode method_3_code 49 = .ok (.lload 8, 2) := by decide +kernel
theorem d_method_3_code_51 : decode method_3_code 51 = .ok (.lload 15, 2) := by decide +kernel
theorem d_method_3_code_53 : decode method_3_code 53 = .ok (.lcmp, 1) := by decide +kernel
theorem d_method_3_code_54 : decode method_3_code 54 = .ok (.ifCond .lt 11, 3) := by decide +kernel
theorem d_method_3_code_57 : decode method_3_code 57 = .ok (.lload 15, 2) := by decide +kernel
theorem d_method_3_code_59 : decode method_3_code 59 = .ok (.lload 8, 2) := by decide +kernel
theorem d_method_3_code_61 : decode method_3_code 61 = .ok (.invokestatic 35, 3) := by decide +kernel
theorem d_method_3_code_64 : decode method_3_code 64 = .ok (.lreturn, 1) := by decide +kernel
theorem d_method_3_code_65 : decode method_3_code 65 = .ok (.lconst 0, 1) := by decide +kernel
theorem d_method_3_code_66 : decode method_3_code 66 = .ok (.lreturn, 1) := by decide +kernel
def own_maxI (a b : Int32) : Int32 := if a < b then b else a
def own_max (a b : Int64) : Int64 := if a < b then b else a
def own_min (a b : Int64) : Int64 := if b < a then b else a
def own_part (st least sb : Int64) : Int64 := own_min sb (own_max least (st / 16))
/-- does the pace step at a value call? -/
def own_go (cl : Int32) (ob ov pt : Int64) : Prop := cl = 0 ∨ 0 < ob ∨ ¬ ov < pt
instance (cl : Int32) (ob ov pt : Int64) : Decidable (own_go cl ob ov pt) := by unfold own_go; infer_instance
def own_exp (calls : Int32) (sb : Int64) (ratio : Int32) (st w : Int64) : Int64 :=
  if own_maxI 0 (calls - 1) = 0 ∨ ¬ ratio.toInt64 * w < own_min sb (own_max (sb / 256) (st / 16)) then own_max (own_min sb (own_max (sb / 256) (st / 16))) (ratio.toInt64 * w) else 0
set_option maxRecDepth 65536 in
set_option maxHeartbeats 4000000 in
theorem m_Math_max_II {l : Launch} {Z : State} {a0 : Array Value} {n0 : Nat} (hw : ∀ d ∈ tables_1, d.before a0 Z = true) {a b : Int32} {G : Ghost} :
    Meth sg l Z n0 (⟨"java/lang/Math", "max", "(II)I"⟩ : MethodName) jdk_29_method_65_code 2 (some .int) ({ frames := 0, cells := 0, slots := 0, locals := 0 } : Room) [.int a, .int b] G (fun v G' => v = some (.int (own_maxI a b)) ∧ G' = G) := by
  refine Meth.of (a0 := a0) (tab := tables_1) (Ls := [.val (.int a), .val (.int b)]) pn_jdk_29_method_65_code hw sgOk (fun m => by first | rfl | (simp [entryFrame, mkF, argsToLocals, Value.category]; done)) ?_
  intro J W
  refine W.iloadN (pc' := 1) d_jdk_29_method_65_code_0 rfl ?_
  refine W.iloadN (pc' := 2) d_jdk_29_method_65_code_1 rfl ?_
  refine W.icmp_lt (pc' := 9) (pc2 := 5) d_jdk_29_method_65_code_2 (fun hc2 => ?_) (fun hc2 => ?_)
  · refine W.iloadN (pc' := 10) d_jdk_29_method_65_code_9 rfl ?_
    refine W.ireturn d_jdk_29_method_65_code_10 (by decide) (by decide) ?_
    exact ⟨by simp [own_maxI, *], rfl⟩
  · refine W.iloadN (pc' := 6) d_jdk_29_method_65_code_5 rfl ?_
    refine W.goto (pc' := 10) d_jdk_29_method_65_code_6 ?_
    refine W.ireturn d_jdk_29_method_65_code_10 (by decide) (by decide) ?_
    exact ⟨by simp [own_maxI, *], rfl⟩
set_option maxRecDepth 65536 in
set_option maxHeartbeats 4000000 in
theorem m_Math_max_JJ {l : Launch} {Z : State} {a0 : Array Value} {n0 : Nat} (hw : ∀ d ∈ tables_1, d.before a0 Z = true) {a b : Int64} {G : Ghost} :
    Meth sg l Z n0 (⟨"java/lang/Math", "max", "(JJ)J"⟩ : MethodName) jdk_29_method_66_code 4 (some .long) ({ frames := 0, cells := 0, slots := 0, locals := 0 } : Room) [.long a, .long b] G (fun v G' => v = some (.long (own_max a b)) ∧ G' = G) := by
  refine Meth.of (a0 := a0) (tab := tables_1) (Ls := [.val (.long a), .second, .val (.long b), .second]) pn_jdk_29_method_66_code hw sgOk (fun m => by first | rfl | (simp [entryFrame, mkF, argsToLocals, Value.category]; done)) ?_
  intro J W
  refine W.lloadN (pc' := 1) d_jdk_29_method_66_code_0 rfl ?_
  refine W.lloadN (pc' := 2) d_jdk_29_method_66_code_1 rfl ?_
  refine W.lcmp (pc' := 3) d_jdk_29_method_66_code_2 ?_
  refine W.ifl_lt (pc' := 10) (pc2 := 6) d_jdk_29_method_66_code_3 (fun hc3 => ?_) (fun hc3 => ?_)
  · refine W.lloadN (pc' := 11) d_jdk_29_method_66_code_10 rfl ?_
    refine W.lreturn d_jdk_29_method_66_code_11 (by decide) (by decide) ?_
    exact ⟨by simp [own_max, *], rfl⟩
  · refine W.lloadN (pc' := 7) d_jdk_29_method_66_code_6 rfl ?_
    refine W.goto (pc' := 11) d_jdk_29_method_66_code_7 ?_
    refine W.lreturn d_jdk_29_method_66_code_11 (by decide) (by decide) ?_
    exact ⟨by simp [own_max, *], rfl⟩
set_option maxRecDepth 65536 in
set_option maxHeartbeats 4000000 in
theorem m_Math_min_JJ {l : Launch} {Z : State} {a0 : Array Value} {n0 : Nat} (hw : ∀ d ∈ tables_1, d.before a0 Z = true) {a b : Int64} {G : Ghost} :
    Meth sg l Z n0 (⟨"java/lang/Math", "min", "(JJ)J"⟩ : MethodName) jdk_29_method_70_code 4 (some .long) ({ frames := 0, cells := 0, slots := 0, locals := 0 } : Room) [.long a, .long b] G (fun v G' => v = some (.long (own_min a b)) ∧ G' = G) := by
  refine Meth.of (a0 := a0) (tab := tables_1) (Ls := [.val (.long a), .second, .val (.long b), .second]) pn_jdk_29_method_70_code hw sgOk (fun m => by first | rfl | (simp [entryFrame, mkF, argsToLocals, Value.category]; done)) ?_
  intro J W
  refine W.lloadN (pc' := 1) d_jdk_29_method_70_code_0 rfl ?_
  refine W.lloadN (pc' := 2) d_jdk_29_method_70_code_1 rfl ?_
  refine W.lcmp (pc' := 3) d_jdk_29_method_70_code_2 ?_
  refine W.ifl_gt (pc' := 10) (pc2 := 6) d_jdk_29_method_70_code_3 (fun hc3 => ?_) (fun hc3 => ?_)
  · refine W.lloadN (pc' := 11) d_jdk_29_method_70_code_10 rfl ?_
    refine W.lreturn d_jdk_29_method_70_code_11 (by decide) (by decide) ?_
    exact ⟨by simp [own_min, *], rfl⟩
  · refine W.lloadN (pc' := 7) d_jdk_29_method_70_code_6 rfl ?_
    refine W.goto (pc' := 11) d_jdk_29_method_70_code_7 ?_
    refine W.lreturn d_jdk_29_method_70_code_11 (by decide) (by decide) ?_
    exact ⟨by simp [own_min, *], rfl⟩
set_option maxRecDepth 65536 in
set_option maxHeartbeats 4000000 in
theorem m_WarmUp_part_JJJ {l : Launch} {Z : State} {a0 : Array Value} {n0 : Nat} (hw : ∀ d ∈ tables_1, d.before a0 Z = true) {a b d : Int64} {G : Ghost} :
    Meth sg l Z n0 (⟨"com/example/millrace/millrace/datadir/WarmUp", "part", "(JJJ)J"⟩ : MethodName) prog_65_method_2_code 6 (some .long) ({ frames := 1, cells := 0, slots := 0, locals := 20 } : Room) [.long a, .long b, .long d] G (fun v G' => v = some (.long (own_part a b d)) ∧ G' = G) := by
  refine Meth.of (a0 := a0) (tab := tables_1) (Ls := [.val (.long a), .second, .val (.long b), .second, .val (.long d), .second]) pn_prog_65_method_2_code hw sgOk (fun m => by first | rfl | (simp [entryFrame, mkF, argsToLocals, Value.category]; done)) ?_
  intro J W
  refine W.lload (pc' := 2) d_prog_65_method_2_code_0 rfl ?_
  refine W.lloadN (pc' := 3) d_prog_65_method_2_code_2 rfl ?_
  refine W.lloadN (pc' := 4) d_prog_65_method_2_code_3 rfl ?_
  refine W.ldc2J (pc' := 7) d_prog_65_method_2_code_4 (tw 42 rfl) ?_
  refine W.ldiv (pc' := 8) d_prog_65_method_2_code_7 (by decide) ?_
  refine W.callStatic (pc' := 11) d_prog_65_method_2_code_8 (tw 43 rfl) (tw 44 rfl) (tw 24 rfl) (tw 45 rfl) (m_Math_max_JJ hw) (lenOf pd0 rfl) rfl rfl rfl rfl (by decide) (by decide) (fun v G' hQ => ?_)
  obtain ⟨rfl, rfl⟩ := hQ
  simp only [List.length_cons, List.length_nil, Nat.reduceAdd, Nat.zero_add, List.cons_append, List.nil_append, List.set_cons_zero, List.set_cons_succ, Option.toList]
  refine W.callStatic (pc' := 14) d_prog_65_method_2_code_11 (tw 46 rfl) (tw 47 rfl) (tw 24 rfl) (tw 48 rfl) (m_Math_min_JJ hw) (lenOf pd0 rfl) rfl rfl rfl rfl (by decide) (by decide) (fun v G' hQ => ?_)
  obtain ⟨rfl, rfl⟩ := hQ
  simp only [List.length_cons, List.length_nil, Nat.reduceAdd, Nat.zero_add, List.cons_append, List.nil_append, List.set_cons_zero, List.set_cons_succ, Option.toList]
  refine W.lreturn d_prog_65_method_2_code_14 (by decide) (by decide) ?_
  exact ⟨rfl, rfl⟩
set_option maxRecDepth 65536 in
set_option maxHeartbeats 4000000 in
theorem m_StepPace__init__IJI {l : Launch} {Z : State} {a0 : Array Value} {n0 : Nat} (hw : ∀ d ∈ tables_1, d.before a0 Z = true) {ca ra : Int32} {sb : Int64} :
    Meth sg l Z n0 (⟨"com/example/millrace/millrace/datadir/StepPace", "<init>", "(IJI)V"⟩ : MethodName) prog_63_method_1_code 5 none ({ frames := 1, cells := 0, slots := 0, locals := 12 } : Room) [.ref (n0 + 0), .int ca, .long sb, .int ra] [(.inl 0, [.int 0, .long 0, .int 0, .int 0, .long 0, .long 0, .long 0])] (fun v G' => v = none ∧ G' = [(.inl 0, [.int ca, .long sb, .int ra, .int ca, .long 0, .long 0, .long 0])]) := by
  refine Meth.of (a0 := a0) (tab := tables_1) (Ls := [.val (.ref (n0 + 0)), .val (.int ca), .val (.long sb), .second, .val (.int ra)]) pn_prog_63_method_1_code hw sgOk (fun m => by first | rfl | (simp [entryFrame, mkF, argsToLocals, Value.category]; done)) ?_
  intro J W
  refine W.aloadN (pc' := 1) d_prog_63_method_1_code_0 rfl rfl ?_
  refine W.initObject (pc' := 4) d_prog_63_method_1_code_1 (tw 6 rfl) (tw 7 rfl) (tw 8 rfl) rfl rfl rfl ?_
  refine W.aloadN (pc' := 5) d_prog_63_method_1_code_4 rfl rfl ?_
  refine W.iloadN (pc' := 6) d_prog_63_method_1_code_5 rfl ?_
  refine W.putfield (pc' := 9) (host := "") 0 d_prog_63_method_1_code_6 (Or.inl (tw 9 rfl)) rfl rfl rfl (Or.inr ⟨tw 10 rfl, rfl, rfl⟩) rfl rfl ?_
  simp only [List.length_cons, List.length_nil, Nat.reduceAdd, Nat.zero_add, List.cons_append, List.nil_append, List.set_cons_zero, List.set_cons_succ, Option.toList]
  refine W.aloadN (pc' := 10) d_prog_63_method_1_code_9 rfl rfl ?_
  refine W.lloadN (pc' := 11) d_prog_63_method_1_code_10 rfl ?_
  refine W.putfield (pc' := 14) (host := "") 1 d_prog_63_method_1_code_11 (Or.inl (tw 11 rfl)) rfl rfl rfl (Or.inr ⟨tw 12 rfl, rfl, rfl⟩) rfl rfl ?_
  simp only [List.length_cons, List.length_nil, Nat.reduceAdd, Nat.zero_add, List.cons_append, List.nil_append, List.set_cons_zero, List.set_cons_succ, Option.toList]
  refine W.aloadN (pc' := 15) d_prog_63_method_1_code_14 rfl rfl ?_
  refine W.iload (pc' := 17) d_prog_63_method_1_code_15 rfl ?_
  refine W.putfield (pc' := 20) (host := "") 2 d_prog_63_method_1_code_17 (Or.inl (tw 13 rfl)) rfl rfl rfl (Or.inr ⟨tw 14 rfl, rfl, rfl⟩) rfl rfl ?_
  simp only [List.length_cons, List.length_nil, Nat.reduceAdd, Nat.zero_add, List.cons_append, List.nil_append, List.set_cons_zero, List.set_cons_succ, Option.toList]
  refine W.aloadN (pc' := 21) d_prog_63_method_1_code_20 rfl rfl ?_
  refine W.iloadN (pc' := 22) d_prog_63_method_1_code_21 rfl ?_
  refine W.putfield (pc' := 25) (host := "") 3 d_prog_63_method_1_code_22 (Or.inl (tw 15 rfl)) rfl rfl rfl (Or.inl (tw 16 rfl)) rfl rfl ?_
  simp only [List.length_cons, List.length_nil, Nat.reduceAdd, Nat.zero_add, List.cons_append, List.nil_append, List.set_cons_zero, List.set_cons_succ, Option.toList]
  refine W.return_ d_prog_63_method_1_code_25 (by decide) (by decide) ?_
  exact ⟨rfl, rfl⟩
set_option maxRecDepth 65536 in
set_option maxHeartbeats 4000000 in
theorem m_StepPace_restart_ {l : Launch} {Z : State} {a0 : Array Value} {n0 : Nat} (hw : ∀ d ∈ tables_1, d.before a0 Z = true) {ca ra cl : Int32} {sb ob ov st : Int64} :
    Meth sg l Z n0 (⟨"com/example/millrace/millrace/datadir/StepPace", "restart", "()V"⟩ : MethodName) prog_63_method_2_code 1 none ({ frames := 0, cells := 0, slots := 0, locals := 0 } : Room) [.ref (n0 + 0)] [(.inl 0, [.int ca, .long sb, .int ra, .int cl, .long ob, .long ov, .long st])] (fun v G' => v = none ∧ G' = [(.inl 0, [.int ca, .long sb, .int ra, .int ca, .long 0, .long 0, .long st])]) := by
  refine Meth.of (a0 := a0) (tab := tables_1) (Ls := [.val (.ref (n0 + 0))]) pn_prog_63_method_2_code hw sgOk (fun m => by first | rfl | (simp [entryFrame, mkF, argsToLocals, Value.category]; done)) ?_
  intro J W
  refine W.aloadN (pc' := 1) d_prog_63_method_2_code_0 rfl rfl ?_
  refine W.aloadN (pc' := 2) d_prog_63_method_2_code_1 rfl rfl ?_
  refine W.getfield (pc' := 5) (host := "") 0 d_prog_63_method_2_code_2 (Or.inl (tw 9 rfl)) rfl rfl rfl rfl ?_
  refine W.putfield (pc' := 8) (host := "") 3 d_prog_63_method_2_code_5 (Or.inl (tw 15 rfl)) rfl rfl rfl (Or.inl (tw 16 rfl)) rfl rfl ?_
  simp only [List.length_cons, List.length_nil, Nat.reduceAdd, Nat.zero_add, List.cons_append, List.nil_append, List.set_cons_zero, List.set_cons_succ, Option.toList]
  refine W.aloadN (pc' := 9) d_prog_63_method_2_code_8 rfl rfl ?_
  refine W.lconst (pc' := 10) (0) d_prog_63_method_2_code_9 rfl ?_
  refine W.putfield (pc' := 13) (host := "") 4 d_prog_63_method_2_code_10 (Or.inl (tw 26 rfl)) rfl rfl rfl (Or.inl (tw 27 rfl)) rfl rfl ?_
  simp only [List.length_cons, List.length_nil, Nat.reduceAdd, Nat.zero_add, List.cons_append, List.nil_append, List.set_cons_zero, List.set_cons_succ, Option.toList]
  refine W.aloadN (pc' := 14) d_prog_63_method_2_code_13 rfl rfl ?_
  refine W.lconst (pc' := 15) (0) d_prog_63_method_2_code_14 rfl ?_
  refine W.putfield (pc' := 18) (host := "") 5 d_prog_63_method_2_code_15 (Or.inl (tw 33 rfl)) rfl rfl rfl (Or.inl (tw 34 rfl)) rfl rfl ?_
  simp only [List.length_cons, List.length_nil, Nat.reduceAdd, Nat.zero_add, List.cons_append, List.nil_append, List.set_cons_zero, List.set_cons_succ, Option.toList]
  refine W.return_ d_prog_63_method_2_code_18 (by decide) (by decide) ?_
  exact ⟨rfl, rfl⟩
set_option maxRecDepth 65536 in
set_option maxHeartbeats 4000000 in
theorem m_next_batch {l : Launch} {Z : State} {a0 : Array Value} {n0 : Nat} (hw : ∀ d ∈ tables_1, d.before a0 Z = true) {ca ra cl q : Int32} {sb ob ov st w : Int64} (hq : ¬ q = 0) :
    Meth sg l Z n0 (⟨"com/example/millrace/millrace/datadir/StepPace", "next", "(JZ)J"⟩ : MethodName) prog_63_method_3_code 10 (some .long) ({ frames := 2, cells := 0, slots := 0, locals := 48 } : Room) [.ref (n0 + 0), .long w, .int q] [(.inl 0, [.int ca, .long sb, .int ra, .int cl, .long ob, .long ov, .long st])] (fun v G' => v = some (.long 0) ∧ G' = [(.inl 0, [.int ca, .long sb, .int ra, .int (own_maxI 0 (cl - 1)), .long (ob + ra.toInt64 * w), .long ov, .long st])]) := by
  refine Meth.of (a0 := a0) (tab := tables_1) (Ls := [.val (.ref (n0 + 0)), .val (.long w), .second, .val (.int q), .unset, .unset, .unset, .unset, .unset, .unset]) pn_prog_63_method_3_code hw sgOk (fun m => by first | rfl | (simp [entryFrame, mkF, argsToLocals, Value.category]; done)) ?_
  intro J W
  refine W.aloadN (pc' := 1) d_prog_63_method_3_code_0 rfl rfl ?_
  refine W.getfield (pc' := 4) (host := "") 2 d_prog_63_method_3_code_1 (Or.inl (tw 13 rfl)) rfl rfl rfl rfl ?_
  refine W.i2l (pc' := 5) d_prog_63_method_3_code_4 ?_
  refine W.lloadN (pc' := 6) d_prog_63_method_3_code_5 rfl ?_
  refine W.lmul (pc' := 7) d_prog_63_method_3_code_6 ?_
  refine W.lstore (pc' := 9) d_prog_63_method_3_code_7 rfl ?_
  simp only [List.length_cons, List.length_nil, Nat.reduceAdd, Nat.zero_add, List.cons_append, List.nil_append, List.set_cons_zero, List.set_cons_succ, Option.toList]
  refine W.aloadN (pc' := 10) d_prog_63_method_3_code_9 rfl rfl ?_
  refine W.iconst (pc' := 11) (0) d_prog_63_method_3_code_10 rfl ?_
  refine W.aloadN (pc' := 12) d_prog_63_method_3_code_11 rfl rfl ?_
  refine W.getfield (pc' := 15) (host := "") 3 d_prog_63_method_3_code_12 (Or.inl (tw 15 rfl)) rfl rfl rfl rfl ?_
  refine W.iconst (pc' := 16) (1) d_prog_63_method_3_code_15 rfl ?_
  refine W.isub (pc' := 17) d_prog_63_method_3_code_16 ?_
  refine W.callStatic (pc' := 20) d_prog_63_method_3_code_17 (tw 22 rfl) (tw 23 rfl) (tw 24 rfl) (tw 25 rfl) (m_Math_max_II hw) (lenOf pd1 rfl) rfl rfl rfl rfl (by decide) (by decide) (fun v G' hQ => ?_)
  obtain ⟨rfl, rfl⟩ := hQ
  simp only [List.length_cons, List.length_nil, Nat.reduceAdd, Nat.zero_add, List.cons_append, List.nil_append, List.set_cons_zero, List.set_cons_succ, Option.toList]
  refine W.putfield (pc' := 23) (host := "") 3 d_prog_63_method_3_code_20 (Or.inl (tw 15 rfl)) rfl rfl rfl (Or.inl (tw 16 rfl)) rfl rfl ?_
  simp only [List.length_cons, List.length_nil, Nat.reduceAdd, Nat.zero_add, List.cons_append, List.nil_append, List.set_cons_zero, List.set_cons_succ, Option.toList]
  refine W.iloadN (pc' := 24) d_prog_63_method_3_code_23 rfl ?_
  refine W.if_eq (pc' := 40) (pc2 := 27) d_prog_63_method_3_code_24 (fun hz_ => absurd hz_ (hq)) (fun _ => ?_)
  refine W.aloadN (pc' := 28) d_prog_63_method_3_code_27 rfl rfl ?_
  refine W.dup (pc' := 29) d_prog_63_method_3_code_28 rfl ?_
  refine W.getfield (pc' := 32) (host := "") 4 d_prog_63_method_3_code_29 (Or.inl (tw 26 rfl)) rfl rfl rfl rfl ?_
  refine W.lload (pc' := 34) d_prog_63_method_3_code_32 rfl ?_
  refine W.ladd (pc' := 35) d_prog_63_method_3_code_34 ?_
  refine W.putfield (pc' := 38) (host := "") 4 d_prog_63_method_3_code_35 (Or.inl (tw 26 rfl)) rfl rfl rfl (Or.inl (tw 27 rfl)) rfl rfl ?_
  simp only [List.length_cons, List.length_nil, Nat.reduceAdd, Nat.zero_add, List.cons_append, List.nil_append, List.set_cons_zero, List.set_cons_succ, Option.toList]
  refine W.lconst (pc' := 39) (0) d_prog_63_method_3_code_38 rfl ?_
  refine W.lreturn d_prog_63_method_3_code_39 (by decide) (by decide) ?_
  exact ⟨rfl, rfl⟩
set_option maxRecDepth 65536 in
set_option maxHeartbeats 4000000 in
theorem m_next_value {l : Launch} {Z : State} {a0 : Array Value} {n0 : Nat} (hw : ∀ d ∈ tables_1, d.before a0 Z = true) {ca ra cl q : Int32} {sb ob ov st w : Int64} (hq : q = 0) :
    Meth sg l Z n0 (⟨"com/example/millrace/millrace/datadir/StepPace", "next", "(JZ)J"⟩ : MethodName) prog_63_method_3_code 10 (some .long) ({ frames := 2, cells := 0, slots := 0, locals := 48 } : Room) [.ref (n0 + 0), .long w, .int q] [(.inl 0, [.int ca, .long sb, .int ra, .int cl, .long ob, .long ov, .long st])] (fun v G' => (own_go (own_maxI 0 (cl - 1)) ob (ov + ra.toInt64 * w) (own_part st (sb / 256) sb) ∧ v = some (.long (own_max (own_part st (sb / 256) sb) (ov + ra.toInt64 * w))) ∧ G' = [(.inl 0, [.int ca, .long sb, .int ra, .int ca, .long (own_max 0 (ob - (own_part st (sb / 256) sb))), .long 0, .long (st + (own_max (own_part st (sb / 256) sb) (ov + ra.toInt64 * w)))])]) ∨ (¬ own_go (own_maxI 0 (cl - 1)) ob (ov + ra.toInt64 * w) (own_part st (sb / 256) sb) ∧ v = some (.long 0) ∧ G' = [(.inl 0, [.int ca, .long sb, .int ra, .int (own_maxI 0 (cl - 1)), .long ob, .long (ov + ra.toInt64 * w), .long st])])) := by
  refine Meth.of (a0 := a0) (tab := tables_1) (Ls := [.val (.ref (n0 + 0)), .val (.long w), .second, .val (.int q), .unset, .unset, .unset, .unset, .unset, .unset]) pn_prog_63_method_3_code hw sgOk (fun m => by first | rfl | (simp [entryFrame, mkF, argsToLocals, Value.category]; done)) ?_
  intro J W
  refine W.aloadN (pc' := 1) d_prog_63_method_3_code_0 rfl rfl ?_
  refine W.getfield (pc' := 4) (host := "") 2 d_prog_63_method_3_code_1 (Or.inl (tw 13 rfl)) rfl rfl rfl rfl ?_
  refine W.i2l (pc' := 5) d_prog_63_method_3_code_4 ?_
  refine W.lloadN (pc' := 6) d_prog_63_method_3_code_5 rfl ?_
  refine W.lmul (pc' := 7) d_prog_63_method_3_code_6 ?_
  refine W.lstore (pc' := 9) d_prog_63_method_3_code_7 rfl ?_
  simp only [List.length_cons, List.length_nil, Nat.reduceAdd, Nat.zero_add, List.cons_append, List.nil_append, List.set_cons_zero, List.set_cons_succ, Option.toList]
  refine W.aloadN (pc' := 10) d_prog_63_method_3_code_9 rfl rfl ?_
  refine W.iconst (pc' := 11) (0) d_prog_63_method_3_code_10 rfl ?_
  refine W.aloadN (pc' := 12) d_prog_63_method_3_code_11 rfl rfl ?_
  refine W.getfield (pc' := 15) (host := "") 3 d_prog_63_method_3_code_12 (Or.inl (tw 15 rfl)) rfl rfl rfl rfl ?_
  refine W.iconst (pc' := 16) (1) d_prog_63_method_3_code_15 rfl ?_
  refine W.isub (pc' := 17) d_prog_63_method_3_code_16 ?_
  refine W.callStatic (pc' := 20) d_prog_63_method_3_code_17 (tw 22 rfl) (tw 23 rfl) (tw 24 rfl) (tw 25 rfl) (m_Math_max_II hw) (lenOf pd1 rfl) rfl rfl rfl rfl (by decide) (by decide) (fun v G' hQ => ?_)
  obtain ⟨rfl, rfl⟩ := hQ
  simp only [List.length_cons, List.length_nil, Nat.reduceAdd, Nat.zero_add, List.cons_append, List.nil_append, List.set_cons_zero, List.set_cons_succ, Option.toList]
  refine W.putfield (pc' := 23) (host := "") 3 d_prog_63_method_3_code_20 (Or.inl (tw 15 rfl)) rfl rfl rfl (Or.inl (tw 16 rfl)) rfl rfl ?_
  simp only [List.length_cons, List.length_nil, Nat.reduceAdd, Nat.zero_add, List.cons_append, List.nil_append, List.set_cons_zero, List.set_cons_succ, Option.toList]
  refine W.iloadN (pc' := 24) d_prog_63_method_3_code_23 rfl ?_
  refine W.if_eq (pc' := 40) (pc2 := 27) d_prog_63_method_3_code_24 (fun _ => ?_) (fun hz_ => absurd (hq) hz_)
  refine W.aloadN (pc' := 41) d_prog_63_method_3_code_40 rfl rfl ?_
  refine W.dup (pc' := 42) d_prog_63_method_3_code_41 rfl ?_
  refine W.getfield (pc' := 45) (host := "") 5 d_prog_63_method_3_code_42 (Or.inl (tw 33 rfl)) rfl rfl rfl rfl ?_
  refine W.lload (pc' := 47) d_prog_63_method_3_code_45 rfl ?_
  refine W.ladd (pc' := 48) d_prog_63_method_3_code_47 ?_
  refine W.putfield (pc' := 51) (host := "") 5 d_prog_63_method_3_code_48 (Or.inl (tw 33 rfl)) rfl rfl rfl (Or.inl (tw 34 rfl)) rfl rfl ?_
  simp only [List.length_cons, List.length_nil, Nat.reduceAdd, Nat.zero_add, List.cons_append, List.nil_append, List.set_cons_zero, List.set_cons_succ, Option.toList]
  refine W.aloadN (pc' := 52) d_prog_63_method_3_code_51 rfl rfl ?_
  refine W.getfield (pc' := 55) (host := "") 6 d_prog_63_method_3_code_52 (Or.inl (tw 35 rfl)) rfl rfl rfl rfl ?_
  refine W.aloadN (pc' := 56) d_prog_63_method_3_code_55 rfl rfl ?_
  refine W.getfield (pc' := 59) (host := "") 1 d_prog_63_method_3_code_56 (Or.inl (tw 11 rfl)) rfl rfl rfl rfl ?_
  refine W.ldc2J (pc' := 62) d_prog_63_method_3_code_59 (tw 37 rfl) ?_
  refine W.ldiv (pc' := 63) d_prog_63_method_3_code_62 (by decide) ?_
  refine W.aloadN (pc' := 64) d_prog_63_method_3_code_63 rfl rfl ?_
  refine W.getfield (pc' := 67) (host := "") 1 d_prog_63_method_3_code_64 (Or.inl (tw 11 rfl)) rfl rfl rfl rfl ?_
  refine W.callStatic (pc' := 70) d_prog_63_method_3_code_67 (tw 38 rfl) (tw 39 rfl) (tw 40 rfl) (tw 41 rfl) (m_WarmUp_part_JJJ hw) (lenOf pd2 rfl) rfl rfl rfl rfl (by decide) (by decide) (fun v G' hQ => ?_)
  obtain ⟨rfl, rfl⟩ := hQ
  simp only [List.length_cons, List.length_nil, Nat.reduceAdd, Nat.zero_add, List.cons_append, List.nil_append, List.set_cons_zero, List.set_cons_succ, Option.toList]
  refine W.lstore (pc' := 72) d_prog_63_method_3_code_70 rfl ?_
  simp only [List.length_cons, List.length_nil, Nat.reduceAdd, Nat.zero_add, List.cons_append, List.nil_append, List.set_cons_zero, List.set_cons_succ, Option.toList]
  refine W.lconst (pc' := 73) (0) d_prog_63_method_3_code_72 rfl ?_
  refine W.lstore (pc' := 75) d_prog_63_method_3_code_73 rfl ?_
  simp only [List.length_cons, List.length_nil, Nat.reduceAdd, Nat.zero_add, List.cons_append, List.nil_append, List.set_cons_zero, List.set_cons_succ, Option.toList]
  refine W.aloadN (pc' := 76) d_prog_63_method_3_code_75 rfl rfl ?_
  refine W.getfield (pc' := 79) (host := "") 3 d_prog_63_method_3_code_76 (Or.inl (tw 15 rfl)) rfl rfl rfl rfl ?_
  refine W.if_eq (pc' := 101) (pc2 := 82) d_prog_63_method_3_code_79 (fun hc79 => ?_) (fun hc79 => ?_)
  · refine W.lload (pc' := 103) d_prog_63_method_3_code_101 rfl ?_
    refine W.aloadN (pc' := 104) d_prog_63_method_3_code_103 rfl rfl ?_
    refine W.getfield (pc' := 107) (host := "") 5 d_prog_63_method_3_code_104 (Or.inl (tw 33 rfl)) rfl rfl rfl rfl ?_
    refine W.callStatic (pc' := 110) d_prog_63_method_3_code_107 (tw 49 rfl) (tw 44 rfl) (tw 24 rfl) (tw 45 rfl) (m_Math_max_JJ hw) (lenOf pd0 rfl) rfl rfl rfl rfl (by decide) (by decide) (fun v G' hQ => ?_)
    obtain ⟨rfl, rfl⟩ := hQ
    simp only [List.length_cons, List.length_nil, Nat.reduceAdd, Nat.zero_add, List.cons_append, List.nil_append, List.set_cons_zero, List.set_cons_succ, Option.toList]
    refine W.lstore (pc' := 112) d_prog_63_method_3_code_110 rfl ?_
    simp only [List.length_cons, List.length_nil, Nat.reduceAdd, Nat.zero_add, List.cons_append, List.nil_append, List.set_cons_zero, List.set_cons_succ, Option.toList]
    refine W.aloadN (pc' := 113) d_prog_63_method_3_code_112 rfl rfl ?_
    refine W.lconst (pc' := 114) (0) d_prog_63_method_3_code_113 rfl ?_
    refine W.putfield (pc' := 117) (host := "") 5 d_prog_63_method_3_code_114 (Or.inl (tw 33 rfl)) rfl rfl rfl (Or.inl (tw 34 rfl)) rfl rfl ?_
    simp only [List.length_cons, List.length_nil, Nat.reduceAdd, Nat.zero_add, List.cons_append, List.nil_append, List.set_cons_zero, List.set_cons_succ, Option.toList]
    refine W.aloadN (pc' := 118) d_prog_63_method_3_code_117 rfl rfl ?_
    refine W.lconst (pc' := 119) (0) d_prog_63_method_3_code_118 rfl ?_
    refine W.aloadN (pc' := 120) d_prog_63_method_3_code_119 rfl rfl ?_
    refine W.getfield (pc' := 123) (host := "") 4 d_prog_63_method_3_code_120 (Or.inl (tw 26 rfl)) rfl rfl rfl rfl ?_
    refine W.lload (pc' := 125) d_prog_63_method_3_code_123 rfl ?_
    refine W.lsub (pc' := 126) d_prog_63_method_3_code_125 ?_
    refine W.callStatic (pc' := 129) d_prog_63_method_3_code_126 (tw 49 rfl) (tw 44 rfl) (tw 24 rfl) (tw 45 rfl) (m_Math_max_JJ hw) (lenOf pd0 rfl) rfl rfl rfl rfl (by decide) (by decide) (fun v G' hQ => ?_)
    obtain ⟨rfl, rfl⟩ := hQ
    simp only [List.length_cons, List.length_nil, Nat.reduceAdd, Nat.zero_add, List.cons_append, List.nil_append, List.set_cons_zero, List.set_cons_succ, Option.toList]
    refine W.putfield (pc' := 132) (host := "") 4 d_prog_63_method_3_code_129 (Or.inl (tw 26 rfl)) rfl rfl rfl (Or.inl (tw 27 rfl)) rfl rfl ?_
    simp only [List.length_cons, List.length_nil, Nat.reduceAdd, Nat.zero_add, List.cons_append, List.nil_append, List.set_cons_zero, List.set_cons_succ, Option.toList]
    refine W.aloadN (pc' := 133) d_prog_63_method_3_code_132 rfl rfl ?_
    refine W.aloadN (pc' := 134) d_prog_63_method_3_code_133 rfl rfl ?_
    refine W.getfield (pc' := 137) (host := "") 0 d_prog_63_method_3_code_134 (Or.inl (tw 9 rfl)) rfl rfl rfl rfl ?_
    refine W.putfield (pc' := 140) (host := "") 3 d_prog_63_method_3_code_137 (Or.inl (tw 15 rfl)) rfl rfl rfl (Or.inl (tw 16 rfl)) rfl rfl ?_
    simp only [List.length_cons, List.length_nil, Nat.reduceAdd, Nat.zero_add, List.cons_append, List.nil_append, List.set_cons_zero, List.set_cons_succ, Option.toList]
    refine W.aloadN (pc' := 141) d_prog_63_method_3_code_140 rfl rfl ?_
    refine W.dup (pc' := 142) d_prog_63_method_3_code_141 rfl ?_
    refine W.getfield (pc' := 145) (host := "") 6 d_prog_63_method_3_code_142 (Or.inl (tw 35 rfl)) rfl rfl rfl rfl ?_
    refine W.lload (pc' := 147) d_prog_63_method_3_code_145 rfl ?_
    refine W.ladd (pc' := 148) d_prog_63_method_3_code_147 ?_
    refine W.putfield (pc' := 151) (host := "") 6 d_prog_63_method_3_code_148 (Or.inl (tw 35 rfl)) rfl rfl rfl (Or.inl (tw 36 rfl)) rfl rfl ?_
    simp only [List.length_cons, List.length_nil, Nat.reduceAdd, Nat.zero_add, List.cons_append, List.nil_append, List.set_cons_zero, List.set_cons_succ, Option.toList]
    refine W.lload (pc' := 153) d_prog_63_method_3_code_151 rfl ?_
    refine W.lreturn d_prog_63_method_3_code_153 (by decide) (by decide) ?_
    first | exact Or.inl ⟨by simp only [own_go]; simp [*], rfl, rfl⟩ | exact Or.inr ⟨by simp only [own_go]; simp [*], rfl, rfl⟩
  · refine W.aloadN (pc' := 83) d_prog_63_method_3_code_82 rfl rfl ?_
    refine W.getfield (pc' := 86) (host := "") 4 d_prog_63_method_3_code_83 (Or.inl (tw 26 rfl)) rfl rfl rfl rfl ?_
    refine W.lconst (pc' := 87) (0) d_prog_63_method_3_code_86 rfl ?_
    refine W.lcmp (pc' := 88) d_prog_63_method_3_code_87 ?_
    refine W.ifl_gt (pc' := 101) (pc2 := 91) d_prog_63_method_3_code_88 (fun hc88 => ?_) (fun hc88 => ?_)
    · refine W.lload (pc' := 103) d_prog_63_method_3_code_101 rfl ?_
      refine W.aloadN (pc' := 104) d_prog_63_method_3_code_103 rfl rfl ?_
      refine W.getfield (pc' := 107) (host := "") 5 d_prog_63_method_3_code_104 (Or.inl (tw 33 rfl)) rfl rfl rfl rfl ?_
      refine W.callStatic (pc' := 110) d_prog_63_method_3_code_107 (tw 49 rfl) (tw 44 rfl) (tw 24 rfl) (tw 45 rfl) (m_Math_max_JJ hw) (lenOf pd0 rfl) rfl rfl rfl rfl (by decide) (by decide) (fun v G' hQ => ?_)
      obtain ⟨rfl, rfl⟩ := hQ
      simp only [List.length_cons, List.length_nil, Nat.reduceAdd, Nat.zero_add, List.cons_append, List.nil_append, List.set_cons_zero, List.set_cons_succ, Option.toList]
      refine W.lstore (pc' := 112) d_prog_63_method_3_code_110 rfl ?_
      simp only [List.length_cons, List.length_nil, Nat.reduceAdd, Nat.zero_add, List.cons_append, List.nil_append, List.set_cons_zero, List.set_cons_succ, Option.toList]
      refine W.aloadN (pc' := 113) d_prog_63_method_3_code_112 rfl rfl ?_
      refine W.lconst (pc' := 114) (0) d_prog_63_method_3_code_113 rfl ?_
      refine W.putfield (pc' := 117) (host := "") 5 d_prog_63_method_3_code_114 (Or.inl (tw 33 rfl)) rfl rfl rfl (Or.inl (tw 34 rfl)) rfl rfl ?_
      simp only [List.length_cons, List.length_nil, Nat.reduceAdd, Nat.zero_add, List.cons_append, List.nil_append, List.set_cons_zero, List.set_cons_succ, Option.toList]
      refine W.aloadN (pc' := 118) d_prog_63_method_3_code_117 rfl rfl ?_
      refine W.lconst (pc' := 119) (0) d_prog_63_method_3_code_118 rfl ?_
      refine W.aloadN (pc' := 120) d_prog_63_method_3_code_119 rfl rfl ?_
      refine W.getfield (pc' := 123) (host := "") 4 d_prog_63_method_3_code_120 (Or.inl (tw 26 rfl)) rfl rfl rfl rfl ?_
      refine W.lload (pc' := 125) d_prog_63_method_3_code_123 rfl ?_
      refine W.lsub (pc' := 126) d_prog_63_method_3_code_125 ?_
      refine W.callStatic (pc' := 129) d_prog_63_method_3_code_126 (tw 49 rfl) (tw 44 rfl) (tw 24 rfl) (tw 45 rfl) (m_Math_max_JJ hw) (lenOf pd0 rfl) rfl rfl rfl rfl (by decide) (by decide) (fun v G' hQ => ?_)
      obtain ⟨rfl, rfl⟩ := hQ
      simp only [List.length_cons, List.length_nil, Nat.reduceAdd, Nat.zero_add, List.cons_append, List.nil_append, List.set_cons_zero, List.set_cons_succ, Option.toList]
      refine W.putfield (pc' := 132) (host := "") 4 d_prog_63_method_3_code_129 (Or.inl (tw 26 rfl)) rfl rfl rfl (Or.inl (tw 27 rfl)) rfl rfl ?_
      simp only [List.length_cons, List.length_nil, Nat.reduceAdd, Nat.zero_add, List.cons_append, List.nil_append, List.set_cons_zero, List.set_cons_succ, Option.toList]
      refine W.aloadN (pc' := 133) d_prog_63_method_3_code_132 rfl rfl ?_
      refine W.aloadN (pc' := 134) d_prog_63_method_3_code_133 rfl rfl ?_
      refine W.getfield (pc' := 137) (host := "") 0 d_prog_63_method_3_code_134 (Or.inl (tw 9 rfl)) rfl rfl rfl rfl ?_
      refine W.putfield (pc' := 140) (host := "") 3 d_prog_63_method_3_code_137 (Or.inl (tw 15 rfl)) rfl rfl rfl (Or.inl (tw 16 rfl)) rfl rfl ?_
      simp only [List.length_cons, List.length_nil, Nat.reduceAdd, Nat.zero_add, List.cons_append, List.nil_append, List.set_cons_zero, List.set_cons_succ, Option.toList]
      refine W.aloadN (pc' := 141) d_prog_63_method_3_code_140 rfl rfl ?_
      refine W.dup (pc' := 142) d_prog_63_method_3_code_141 rfl ?_
      refine W.getfield (pc' := 145) (host := "") 6 d_prog_63_method_3_code_142 (Or.inl (tw 35 rfl)) rfl rfl rfl rfl ?_
      refine W.lload (pc' := 147) d_prog_63_method_3_code_145 rfl ?_
      refine W.ladd (pc' := 148) d_prog_63_method_3_code_147 ?_
      refine W.putfield (pc' := 151) (host := "") 6 d_prog_63_method_3_code_148 (Or.inl (tw 35 rfl)) rfl rfl rfl (Or.inl (tw 36 rfl)) rfl rfl ?_
      simp only [List.length_cons, List.length_nil, Nat.reduceAdd, Nat.zero_add, List.cons_append, List.nil_append, List.set_cons_zero, List.set_cons_succ, Option.toList]
      refine W.lload (pc' := 153) d_prog_63_method_3_code_151 rfl ?_
      refine W.lreturn d_prog_63_method_3_code_153 (by decide) (by decide) ?_
      first | exact Or.inl ⟨by simp only [own_go]; simp [*], rfl, rfl⟩ | exact Or.inr ⟨by simp only [own_go]; simp [*], rfl, rfl⟩
    · refine W.aloadN (pc' := 92) d_prog_63_method_3_code_91 rfl rfl ?_
      refine W.getfield (pc' := 95) (host := "") 5 d_prog_63_method_3_code_92 (Or.inl (tw 33 rfl)) rfl rfl rfl rfl ?_
      refine W.lload (pc' := 97) d_prog_63_method_3_code_95 rfl ?_
      refine W.lcmp (pc' := 98) d_prog_63_method_3_code_97 ?_
      refine W.ifl_lt (pc' := 151) (pc2 := 101) d_prog_63_method_3_code_98 (fun hc98 => ?_) (fun hc98 => ?_)
      · refine W.lload (pc' := 153) d_prog_63_method_3_code_151 rfl ?_
        refine W.lreturn d_prog_63_method_3_code_153 (by decide) (by decide) ?_
        first | exact Or.inl ⟨by simp only [own_go]; simp [*], rfl, rfl⟩ | exact Or.inr ⟨by simp only [own_go]; simp [*], rfl, rfl⟩
      · refine W.lload (pc' := 103) d_prog_63_method_3_code_101 rfl ?_
        refine W.aloadN (pc' := 104) d_prog_63_method_3_code_103 rfl rfl ?_
        refine W.getfield (pc' := 107) (host := "") 5 d_prog_63_method_3_code_104 (Or.inl (tw 33 rfl)) rfl rfl rfl rfl ?_
        refine W.callStatic (pc' := 110) d_prog_63_method_3_code_107 (tw 49 rfl) (tw 44 rfl) (tw 24 rfl) (tw 45 rfl) (m_Math_max_JJ hw) (lenOf pd0 rfl) rfl rfl rfl rfl (by decide) (by decide) (fun v G' hQ => ?_)
        obtain ⟨rfl, rfl⟩ := hQ
        simp only [List.length_cons, List.length_nil, Nat.reduceAdd, Nat.zero_add, List.cons_append, List.nil_append, List.set_cons_zero, List.set_cons_succ, Option.toList]
        refine W.lstore (pc' := 112) d_prog_63_method_3_code_110 rfl ?_
        simp only [List.length_cons, List.length_nil, Nat.reduceAdd, Nat.zero_add, List.cons_append, List.nil_append, List.set_cons_zero, List.set_cons_succ, Option.toList]
        refine W.aloadN (pc' := 113) d_prog_63_method_3_code_112 rfl rfl ?_
        refine W.lconst (pc' := 114) (0) d_prog_63_method_3_code_113 rfl ?_
        refine W.putfield (pc' := 117) (host := "") 5 d_prog_63_method_3_code_114 (Or.inl (tw 33 rfl)) rfl rfl rfl (Or.inl (tw 34 rfl)) rfl rfl ?_
        simp only [List.length_cons, List.length_nil, Nat.reduceAdd, Nat.zero_add, List.cons_append, List.nil_append, List.set_cons_zero, List.set_cons_succ, Option.toList]
        refine W.aloadN (pc' := 118) d_prog_63_method_3_code_117 rfl rfl ?_
        refine W.lconst (pc' := 119) (0) d_prog_63_method_3_code_118 rfl ?_
        refine W.aloadN (pc' := 120) d_prog_63_method_3_code_119 rfl rfl ?_
        refine W.getfield (pc' := 123) (host := "") 4 d_prog_63_method_3_code_120 (Or.inl (tw 26 rfl)) rfl rfl rfl rfl ?_
        refine W.lload (pc' := 125) d_prog_63_method_3_code_123 rfl ?_
        refine W.lsub (pc' := 126) d_prog_63_method_3_code_125 ?_
        refine W.callStatic (pc' := 129) d_prog_63_method_3_code_126 (tw 49 rfl) (tw 44 rfl) (tw 24 rfl) (tw 45 rfl) (m_Math_max_JJ hw) (lenOf pd0 rfl) rfl rfl rfl rfl (by decide) (by decide) (fun v G' hQ => ?_)
        obtain ⟨rfl, rfl⟩ := hQ
        simp only [List.length_cons, List.length_nil, Nat.reduceAdd, Nat.zero_add, List.cons_append, List.nil_append, List.set_cons_zero, List.set_cons_succ, Option.toList]
        refine W.putfield (pc' := 132) (host := "") 4 d_prog_63_method_3_code_129 (Or.inl (tw 26 rfl)) rfl rfl rfl (Or.inl (tw 27 rfl)) rfl rfl ?_
        simp only [List.length_cons, List.length_nil, Nat.reduceAdd, Nat.zero_add, List.cons_append, List.nil_append, List.set_cons_zero, List.set_cons_succ, Option.toList]
        refine W.aloadN (pc' := 133) d_prog_63_method_3_code_132 rfl rfl ?_
        refine W.aloadN (pc' := 134) d_prog_63_method_3_code_133 rfl rfl ?_
        refine W.getfield (pc' := 137) (host := "") 0 d_prog_63_method_3_code_134 (Or.inl (tw 9 rfl)) rfl rfl rfl rfl ?_
        refine W.putfield (pc' := 140) (host := "") 3 d_prog_63_method_3_code_137 (Or.inl (tw 15 rfl)) rfl rfl rfl (Or.inl (tw 16 rfl)) rfl rfl ?_
        simp only [List.length_cons, List.length_nil, Nat.reduceAdd, Nat.zero_add, List.cons_append, List.nil_append, List.set_cons_zero, List.set_cons_succ, Option.toList]
        refine W.aloadN (pc' := 141) d_prog_63_method_3_code_140 rfl rfl ?_
        refine W.dup (pc' := 142) d_prog_63_method_3_code_141 rfl ?_
        refine W.getfield (pc' := 145) (host := "") 6 d_prog_63_method_3_code_142 (Or.inl (tw 35 rfl)) rfl rfl rfl rfl ?_
        refine W.lload (pc' := 147) d_prog_63_method_3_code_145 rfl ?_
        refine W.ladd (pc' := 148) d_prog_63_method_3_code_147 ?_
        refine W.putfield (pc' := 151) (host := "") 6 d_prog_63_method_3_code_148 (Or.inl (tw 35 rfl)) rfl rfl rfl (Or.inl (tw 36 rfl)) rfl rfl ?_
        simp only [List.length_cons, List.length_nil, Nat.reduceAdd, Nat.zero_add, List.cons_append, List.nil_append, List.set_cons_zero, List.set_cons_succ, Option.toList]
        refine W.lload (pc' := 153) d_prog_63_method_3_code_151 rfl ?_
        refine W.lreturn d_prog_63_method_3_code_153 (by decide) (by decide) ?_
        first | exact Or.inl ⟨by simp only [own_go]; simp [*], rfl, rfl⟩ | exact Or.inr ⟨by simp only [own_go]; simp [*], rfl, rfl⟩
set_option maxRecDepth 65536 in
set_option maxHeartbeats 4000000 in
theorem m_StepPaceRestartPinLaw_expected_IJIJJ {l : Launch} {Z : State} {a0 : Array Value} {n0 : Nat} (hw : ∀ d ∈ tables_1, d.before a0 Z = true) {ca ra : Int32} {sb st w : Int64} {G : Ghost} :
    Meth sg l Z n0 (⟨"com/example/millrace/millrace/datadir/StepPaceRestartPinLaw", "expected", "(IJIJJ)J"⟩ : MethodName) method_3_code 17 (some .long) ({ frames := 1, cells := 0, slots := 0, locals := 24 } : Room) [.int ca, .long sb, .int ra, .long st, .long w] G (fun v G' => v = some (.long (own_exp ca sb ra st w)) ∧ G' = G) := by
  refine Meth.of (a0 := a0) (tab := tables_1) (Ls := [.val (.int ca), .val (.long sb), .second, .val (.int ra), .val (.long st), .second, .val (.long w), .second, .unset, .unset, .unset, .unset, .unset, .unset, .unset, .unset, .unset]) pn_method_3_code hw sgOk (fun m => by first | rfl | (simp [entryFrame, mkF, argsToLocals, Value.category]; done)) ?_
  intro J W
  refine W.iloadN (pc' := 1) d_method_3_code_0 rfl ?_
  refine W.i2l (pc' := 2) d_method_3_code_1 ?_
  refine W.lload (pc' := 4) d_method_3_code_2 rfl ?_
  refine W.lmul (pc' := 5) d_method_3_code_4 ?_
  refine W.lstore (pc' := 7) d_method_3_code_5 rfl ?_
  simp only [List.length_cons, List.length_nil, Nat.reduceAdd, Nat.zero_add, List.cons_append, List.nil_append, List.set_cons_zero, List.set_cons_succ, Option.toList]
  refine W.iconst (pc' := 8) (0) d_method_3_code_7 rfl ?_
  refine W.iloadN (pc' := 9) d_method_3_code_8 rfl ?_
  refine W.iconst (pc' := 10) (1) d_method_3_code_9 rfl ?_
  refine W.isub (pc' := 11) d_method_3_code_10 ?_
  refine W.callStatic (pc' := 14) d_method_3_code_11 (tw 54 rfl) (tw 23 rfl) (tw 24 rfl) (tw 25 rfl) (m_Math_max_II hw) (lenOf pd1 rfl) rfl rfl rfl rfl (by decide) (by decide) (fun v G' hQ => ?_)
  obtain ⟨rfl, rfl⟩ := hQ
  simp only [List.length_cons, List.length_nil, Nat.reduceAdd, Nat.zero_add, List.cons_append, List.nil_append, List.set_cons_zero, List.set_cons_succ, Option.toList]
  refine W.istore (pc' := 16) d_method_3_code_14 rfl ?_
  simp only [List.length_cons, List.length_nil, Nat.reduceAdd, Nat.zero_add, List.cons_append, List.nil_append, List.set_cons_zero, List.set_cons_succ, Option.toList]
  refine W.lloadN (pc' := 17) d_method_3_code_16 rfl ?_
  refine W.ldc2J (pc' := 20) d_method_3_code_17 (tw 55 rfl) ?_
  refine W.ldiv (pc' := 21) d_method_3_code_20 (by decide) ?_
  refine W.lstore (pc' := 23) d_method_3_code_21 rfl ?_
  simp only [List.length_cons, List.length_nil, Nat.reduceAdd, Nat.zero_add, List.cons_append, List.nil_append, List.set_cons_zero, List.set_cons_succ, Option.toList]
  refine W.lload (pc' := 25) d_method_3_code_23 rfl ?_
  refine W.ldc2J (pc' := 28) d_method_3_code_25 (tw 56 rfl) ?_
  refine W.ldiv (pc' := 29) d_method_3_code_28 (by decide) ?_
  refine W.lstore (pc' := 31) d_method_3_code_29 rfl ?_
  simp only [List.length_cons, List.length_nil, Nat.reduceAdd, Nat.zero_add, List.cons_append, List.nil_append, List.set_cons_zero, List.set_cons_succ, Option.toList]
  refine W.lloadN (pc' := 32) d_method_3_code_31 rfl ?_
  refine W.lload (pc' := 34) d_method_3_code_32 rfl ?_
  refine W.lload (pc' := 36) d_method_3_code_34 rfl ?_
  refine W.callStatic (pc' := 39) d_method_3_code_36 (tw 57 rfl) (tw 44 rfl) (tw 24 rfl) (tw 45 rfl) (m_Math_max_JJ hw) (lenOf pd0 rfl) rfl rfl rfl rfl (by decide) (by decide) (fun v G' hQ => ?_)
  obtain ⟨rfl, rfl⟩ := hQ
  simp only [List.length_cons, List.length_nil, Nat.reduceAdd, Nat.zero_add, List.cons_append, List.nil_append, List.set_cons_zero, List.set_cons_succ, Option.toList]
  refine W.callStatic (pc' := 42) d_method_3_code_39 (tw 58 rfl) (tw 47 rfl) (tw 24 rfl) (tw 48 rfl) (m_Math_min_JJ hw) (lenOf pd0 rfl) rfl rfl rfl rfl (by decide) (by decide) (fun v G' hQ => ?_)
  obtain ⟨rfl, rfl⟩ := hQ
  simp only [List.length_cons, List.length_nil, Nat.reduceAdd, Nat.zero_add, List.cons_append, List.nil_append, List.set_cons_zero, List.set_cons_succ, Option.toList]
  refine W.lstore (pc' := 44) d_method_3_code_42 rfl ?_
  simp only [List.length_cons, List.length_nil, Nat.reduceAdd, Nat.zero_add, List.cons_append, List.nil_append, List.set_cons_zero, List.set_cons_succ, Option.toList]
  refine W.iload (pc' := 46) d_method_3_code_44 rfl ?_
  refine W.if_eq (pc' := 57) (pc2 := 49) d_method_3_code_46 (fun hc46 => ?_) (fun hc46 => ?_)
  · refine W.lload (pc' := 59) d_method_3_code_57 rfl ?_
    refine W.lload (pc' := 61) d_method_3_code_59 rfl ?_
    refine W.callStatic (pc' := 64) d_method_3_code_61 (tw 57 rfl) (tw 44 rfl) (tw 24 rfl) (tw 45 rfl) (m_Math_max_JJ hw) (lenOf pd0 rfl) rfl rfl rfl rfl (by decide) (by decide) (fun v G' hQ => ?_)
    obtain ⟨rfl, rfl⟩ := hQ
    simp only [List.length_cons, List.length_nil, Nat.reduceAdd, Nat.zero_add, List.cons_append, List.nil_append, List.set_cons_zero, List.set_cons_succ, Option.toList]
    refine W.lreturn d_method_3_code_64 (by decide) (by decide) ?_
    exact ⟨by simp only [own_exp]; simp [*], rfl⟩
  · refine W.lload (pc' := 51) d_method_3_code_49 rfl ?_
    refine W.lload (pc' := 53) d_method_3_code_51 rfl ?_
    refine W.lcmp (pc' := 54) d_method_3_code_53 ?_
    refine W.ifl_lt (pc' := 65) (pc2 := 57) d_method_3_code_54 (fun hc54 => ?_) (fun hc54 => ?_)
    · refine W.lconst (pc' := 66) (0) d_method_3_code_65 rfl ?_
      refine W.lreturn d_method_3_code_66 (by decide) (by decide) ?_
      exact ⟨by simp only [own_exp]; simp [*], rfl⟩
    · refine W.lload (pc' := 59) d_method_3_code_57 rfl ?_
      refine W.lload (pc' := 61) d_method_3_code_59 rfl ?_
      refine W.callStatic (pc' := 64) d_method_3_code_61 (tw 57 rfl) (tw 44 rfl) (tw 24 rfl) (tw 45 rfl) (m_Math_max_JJ hw) (lenOf pd0 rfl) rfl rfl rfl rfl (by decide) (by decide) (fun v G' hQ => ?_)
      obtain ⟨rfl, rfl⟩ := hQ
      simp only [List.length_cons, List.length_nil, Nat.reduceAdd, Nat.zero_add, List.cons_append, List.nil_append, List.set_cons_zero, List.set_cons_succ, Option.toList]
      refine W.lreturn d_method_3_code_64 (by decide) (by decide) ?_
      exact ⟨by simp only [own_exp]; simp [*], rfl⟩
theorem own_key (ca : Int32) (sb : Int64) (ra : Int32) (st w : Int64) (h : own_go (own_maxI 0 (ca - 1)) 0 (0 + ra.toInt64 * w) (own_part st (sb / 256) sb)) : own_max (own_part st (sb / 256) sb) (0 + ra.toInt64 * w) = own_exp ca sb ra st w := by
  rw [Int64.zero_add] at h ⊢
  unfold own_go at h
  have h' : own_maxI 0 (ca - 1) = 0 ∨ ¬ ra.toInt64 * w < own_part st (sb / 256) sb := by
    rcases h with h | h | h
    · exact Or.inl h
    · exact absurd h (by decide)
    · exact Or.inr h
  unfold own_exp
  exact (if_pos h').symm
theorem own_key0 (ca : Int32) (sb : Int64) (ra : Int32) (st w : Int64) (h : ¬ own_go (own_maxI 0 (ca - 1)) 0 (0 + ra.toInt64 * w) (own_part st (sb / 256) sb)) : 0 = own_exp ca sb ra st w := by
  rw [Int64.zero_add] at h
  unfold own_exp
  refine (if_neg fun q => h ?_).symm
  rcases q with q | q
  · exact Or.inl q
  · exact Or.inr (Or.inr q)
set_option maxRecDepth 65536 in
set_option maxHeartbeats 4000000 in
theorem m_law {l : Launch} {Z : State} {a0 : Array Value} {n0 : Nat} (hw : ∀ d ∈ tables_1, d.before a0 Z = true) (ca : Int32) (sb : Int64) (ra : Int32) (w1 w3 : Int64) (mode : Int32) :
    Meth sg l Z n0 x code maxLocals ret room_1 [.int ca, .long sb, .int ra, .long w1, .long w3, .int mode] [] (fun v G' => v = some (.int 1)) := by
  refine Meth.of (a0 := a0) (tab := tables_1) (Ls := [.val (.int ca), .val (.long sb), .second, .val (.int ra), .val (.long w1), .second, .val (.long w3), .second, .val (.int mode), .unset, .unset, .unset, .unset, .unset, .unset, .unset, .unset]) pn_code hw sgOk (fun m => by first | rfl | (simp [entryFrame, mkF, argsToLocals, Value.category, maxLocals]; done)) ?_
  intro J W
  refine W.iload (pc' := 2) at_0 rfl ?_
  refine W.iconst (pc' := 3) (1) at_2 rfl ?_
  refine W.iand (pc' := 4) at_3 ?_
  refine W.dia_if_eq (pc' := 11) (pe := 12) (1) (0) at_4 at_7 at_8 at_11 rfl rfl ?_
  refine W.istore (pc' := 14) at_12 rfl ?_
  simp only [List.length_cons, List.length_nil, Nat.reduceAdd, Nat.zero_add, List.cons_append, List.nil_append, List.set_cons_zero, List.set_cons_succ, Option.toList]
  refine W.iload (pc' := 16) at_14 rfl ?_
  refine W.iconst (pc' := 17) (1) at_16 rfl ?_
  refine W.ishr (pc' := 18) at_17 ?_
  refine W.i2l (pc' := 19) at_18 ?_
  refine W.lstore (pc' := 21) at_19 rfl ?_
  simp only [List.length_cons, List.length_nil, Nat.reduceAdd, Nat.zero_add, List.cons_append, List.nil_append, List.set_cons_zero, List.set_cons_succ, Option.toList]
  refine W.new (pc' := 24) (vs := [.int 0, .long 0, .int 0, .int 0, .long 0, .long 0, .long 0]) 0 at_21 rfl (tw 0 rfl) (tw 2 rfl) rfl (by decide) (by decide) ?_
  simp only [List.length_cons, List.length_nil, Nat.reduceAdd, Nat.zero_add, List.cons_append, List.nil_append, List.set_cons_zero, List.set_cons_succ, Option.toList]
  refine W.dup (pc' := 25) at_24 rfl ?_
  refine W.iloadN (pc' := 26) at_25 rfl ?_
  refine W.lloadN (pc' := 27) at_26 rfl ?_
  refine W.iloadN (pc' := 28) at_27 rfl ?_
  refine W.callInit (pc' := 31) at_28 (tw 3 rfl) (tw 4 rfl) (tw 2 rfl) (tw 5 rfl) (m_StepPace__init__IJI hw) (lenOf pd3 rfl) rfl rfl rfl rfl (by decide) (by decide) (fun v G' hQ => ?_)
  obtain ⟨rfl, rfl⟩ := hQ
  simp only [List.length_cons, List.length_nil, Nat.reduceAdd, Nat.zero_add, List.cons_append, List.nil_append, List.set_cons_zero, List.set_cons_succ, Option.toList]
  refine W.astore (pc' := 33) at_31 rfl rfl ?_
  simp only [List.length_cons, List.length_nil, Nat.reduceAdd, Nat.zero_add, List.cons_append, List.nil_append, List.set_cons_zero, List.set_cons_succ, Option.toList]
  refine W.aload (pc' := 35) at_33 rfl rfl ?_
  refine W.lload (pc' := 37) at_35 rfl ?_
  refine W.iload (pc' := 39) at_37 rfl ?_
  by_cases hm : mode &&& 1 = 0
  · rw [if_pos hm]
    refine W.callVirtual (pc' := 42) at_39 (tw 17 rfl) (tw 18 rfl) (tw 20 rfl) (tw 19 rfl) (tw 2 rfl) (tw 21 rfl) rfl rfl (m_next_value hw rfl) (lenOf pd4 rfl) rfl rfl rfl rfl (by decide) (by decide) (fun v G' hQ => ?_)
    obtain ⟨hg, rfl, rfl⟩ | ⟨hg, rfl, rfl⟩ := hQ
    · simp only [List.length_cons, List.length_nil, Nat.reduceAdd, Nat.zero_add, List.cons_append, List.nil_append, List.set_cons_zero, List.set_cons_succ, Option.toList]
      try simp only [Int64.zero_add]
      refine W.lstore (pc' := 44) at_42 rfl ?_
      simp only [List.length_cons, List.length_nil, Nat.reduceAdd, Nat.zero_add, List.cons_append, List.nil_append, List.set_cons_zero, List.set_cons_succ, Option.toList]
      refine W.aload (pc' := 46) at_44 rfl rfl ?_
      refine W.lload (pc' := 48) at_46 rfl ?_
      refine W.iconst (pc' := 49) (1) at_48 rfl ?_
      refine W.callVirtual (pc' := 52) at_49 (tw 17 rfl) (tw 18 rfl) (tw 20 rfl) (tw 19 rfl) (tw 2 rfl) (tw 21 rfl) rfl rfl (m_next_batch hw (by decide)) (lenOf pd4 rfl) rfl rfl rfl rfl (by decide) (by decide) (fun v G' hQ => ?_)
      obtain ⟨rfl, rfl⟩ := hQ
      simp only [List.length_cons, List.length_nil, Nat.reduceAdd, Nat.zero_add, List.cons_append, List.nil_append, List.set_cons_zero, List.set_cons_succ, Option.toList]
      refine W.pop2L (pc' := 53) at_52 ?_
      refine W.aload (pc' := 55) at_53 rfl rfl ?_
      refine W.callVirtual (pc' := 58) at_55 (tw 28 rfl) (tw 29 rfl) (tw 31 rfl) (tw 30 rfl) (tw 2 rfl) (tw 32 rfl) rfl rfl (m_StepPace_restart_ hw) (lenOf pd5 rfl) rfl rfl rfl rfl (by decide) (by decide) (fun v G' hQ => ?_)
      obtain ⟨rfl, rfl⟩ := hQ
      simp only [List.length_cons, List.length_nil, Nat.reduceAdd, Nat.zero_add, List.cons_append, List.nil_append, List.set_cons_zero, List.set_cons_succ, Option.toList]
      refine W.aload (pc' := 60) at_58 rfl rfl ?_
      refine W.lload (pc' := 62) at_60 rfl ?_
      refine W.iconst (pc' := 63) (0) at_62 rfl ?_
      refine W.callVirtual (pc' := 66) at_63 (tw 17 rfl) (tw 18 rfl) (tw 20 rfl) (tw 19 rfl) (tw 2 rfl) (tw 21 rfl) rfl rfl (m_next_value hw rfl) (lenOf pd4 rfl) rfl rfl rfl rfl (by decide) (by decide) (fun v G' hQ => ?_)
      obtain ⟨hg, rfl, rfl⟩ | ⟨hg, rfl, rfl⟩ := hQ
      · simp only [List.length_cons, List.length_nil, Nat.reduceAdd, Nat.zero_add, List.cons_append, List.nil_append, List.set_cons_zero, List.set_cons_succ, Option.toList]
        refine W.lstore (pc' := 68) at_66 rfl ?_
        simp only [List.length_cons, List.length_nil, Nat.reduceAdd, Nat.zero_add, List.cons_append, List.nil_append, List.set_cons_zero, List.set_cons_succ, Option.toList]
        refine W.lload (pc' := 70) at_68 rfl ?_
        refine W.iloadN (pc' := 71) at_70 rfl ?_
        refine W.lloadN (pc' := 72) at_71 rfl ?_
        refine W.iloadN (pc' := 73) at_72 rfl ?_
        refine W.lload (pc' := 75) at_73 rfl ?_
        refine W.lload (pc' := 77) at_75 rfl ?_
        refine W.callStatic (pc' := 80) at_77 (tw 50 rfl) (tw 51 rfl) (tw 52 rfl) (tw 53 rfl) (m_StepPaceRestartPinLaw_expected_IJIJJ hw) (lenOf pd6 rfl) rfl rfl rfl rfl (by decide) (by decide) (fun v G' hQ => ?_)
        obtain ⟨rfl, rfl⟩ := hQ
        simp only [List.length_cons, List.length_nil, Nat.reduceAdd, Nat.zero_add, List.cons_append, List.nil_append, List.set_cons_zero, List.set_cons_succ, Option.toList]
        refine W.lcmp (pc' := 81) at_80 ?_
        refine W.ifl_ne (pc' := 88) (pc2 := 84) at_81 (fun _ => ?_) (fun hz_ => absurd (own_key _ _ _ _ _ hg) hz_)
        refine W.iconst (pc' := 85) (1) at_84 rfl ?_
        refine W.goto (pc' := 89) at_85 ?_
        refine W.zreturn at_89 (by decide) (by decide) (by decide) ?_
        rfl
      · simp only [List.length_cons, List.length_nil, Nat.reduceAdd, Nat.zero_add, List.cons_append, List.nil_append, List.set_cons_zero, List.set_cons_succ, Option.toList]
        refine W.lstore (pc' := 68) at_66 rfl ?_
        simp only [List.length_cons, List.length_nil, Nat.reduceAdd, Nat.zero_add, List.cons_append, List.nil_append, List.set_cons_zero, List.set_cons_succ, Option.toList]
        refine W.lload (pc' := 70) at_68 rfl ?_
        refine W.iloadN (pc' := 71) at_70 rfl ?_
        refine W.lloadN (pc' := 72) at_71 rfl ?_
        refine W.iloadN (pc' := 73) at_72 rfl ?_
        refine W.lload (pc' := 75) at_73 rfl ?_
        refine W.lload (pc' := 77) at_75 rfl ?_
        refine W.callStatic (pc' := 80) at_77 (tw 50 rfl) (tw 51 rfl) (tw 52 rfl) (tw 53 rfl) (m_StepPaceRestartPinLaw_expected_IJIJJ hw) (lenOf pd6 rfl) rfl rfl rfl rfl (by decide) (by decide) (fun v G' hQ => ?_)
        obtain ⟨rfl, rfl⟩ := hQ
        simp only [List.length_cons, List.length_nil, Nat.reduceAdd, Nat.zero_add, List.cons_append, List.nil_append, List.set_cons_zero, List.set_cons_succ, Option.toList]
        refine W.lcmp (pc' := 81) at_80 ?_
        refine W.ifl_ne (pc' := 88) (pc2 := 84) at_81 (fun _ => ?_) (fun hz_ => absurd (own_key0 _ _ _ _ _ hg) hz_)
        refine W.iconst (pc' := 85) (1) at_84 rfl ?_
        refine W.goto (pc' := 89) at_85 ?_
        refine W.zreturn at_89 (by decide) (by decide) (by decide) ?_
        rfl
    · simp only [List.length_cons, List.length_nil, Nat.reduceAdd, Nat.zero_add, List.cons_append, List.nil_append, List.set_cons_zero, List.set_cons_succ, Option.toList]
      try simp only [Int64.zero_add]
      refine W.lstore (pc' := 44) at_42 rfl ?_
      simp only [List.length_cons, List.length_nil, Nat.reduceAdd, Nat.zero_add, List.cons_append, List.nil_append, List.set_cons_zero, List.set_cons_succ, Option.toList]
      refine W.aload (pc' := 46) at_44 rfl rfl ?_
      refine W.lload (pc' := 48) at_46 rfl ?_
      refine W.iconst (pc' := 49) (1) at_48 rfl ?_
      refine W.callVirtual (pc' := 52) at_49 (tw 17 rfl) (tw 18 rfl) (tw 20 rfl) (tw 19 rfl) (tw 2 rfl) (tw 21 rfl) rfl rfl (m_next_batch hw (by decide)) (lenOf pd4 rfl) rfl rfl rfl rfl (by decide) (by decide) (fun v G' hQ => ?_)
      obtain ⟨rfl, rfl⟩ := hQ
      simp only [List.length_cons, List.length_nil, Nat.reduceAdd, Nat.zero_add, List.cons_append, List.nil_append, List.set_cons_zero, List.set_cons_succ, Option.toList]
      refine W.pop2L (pc' := 53) at_52 ?_
      refine W.aload (pc' := 55) at_53 rfl rfl ?_
      refine W.callVirtual (pc' := 58) at_55 (tw 28 rfl) (tw 29 rfl) (tw 31 rfl) (tw 30 rfl) (tw 2 rfl) (tw 32 rfl) rfl rfl (m_StepPace_restart_ hw) (lenOf pd5 rfl) rfl rfl rfl rfl (by decide) (by decide) (fun v G' hQ => ?_)
      obtain ⟨rfl, rfl⟩ := hQ
      simp only [List.length_cons, List.length_nil, Nat.reduceAdd, Nat.zero_add, List.cons_append, List.nil_append, List.set_cons_zero, List.set_cons_succ, Option.toList]
      refine W.aload (pc' := 60) at_58 rfl rfl ?_
      refine W.lload (pc' := 62) at_60 rfl ?_
      refine W.iconst (pc' := 63) (0) at_62 rfl ?_
      refine W.callVirtual (pc' := 66) at_63 (tw 17 rfl) (tw 18 rfl) (tw 20 rfl) (tw 19 rfl) (tw 2 rfl) (tw 21 rfl) rfl rfl (m_next_value hw rfl) (lenOf pd4 rfl) rfl rfl rfl rfl (by decide) (by decide) (fun v G' hQ => ?_)
      obtain ⟨hg, rfl, rfl⟩ | ⟨hg, rfl, rfl⟩ := hQ
      · simp only [List.length_cons, List.length_nil, Nat.reduceAdd, Nat.zero_add, List.cons_append, List.nil_append, List.set_cons_zero, List.set_cons_succ, Option.toList]
        refine W.lstore (pc' := 68) at_66 rfl ?_
        simp only [List.length_cons, List.length_nil, Nat.reduceAdd, Nat.zero_add, List.cons_append, List.nil_append, List.set_cons_zero, List.set_cons_succ, Option.toList]
        refine W.lload (pc' := 70) at_68 rfl ?_
        refine W.iloadN (pc' := 71) at_70 rfl ?_
        refine W.lloadN (pc' := 72) at_71 rfl ?_
        refine W.iloadN (pc' := 73) at_72 rfl ?_
        refine W.lload (pc' := 75) at_73 rfl ?_
        refine W.lload (pc' := 77) at_75 rfl ?_
        refine W.callStatic (pc' := 80) at_77 (tw 50 rfl) (tw 51 rfl) (tw 52 rfl) (tw 53 rfl) (m_StepPaceRestartPinLaw_expected_IJIJJ hw) (lenOf pd6 rfl) rfl rfl rfl rfl (by decide) (by decide) (fun v G' hQ => ?_)
        obtain ⟨rfl, rfl⟩ := hQ
        simp only [List.length_cons, List.length_nil, Nat.reduceAdd, Nat.zero_add, List.cons_append, List.nil_append, List.set_cons_zero, List.set_cons_succ, Option.toList]
        refine W.lcmp (pc' := 81) at_80 ?_
        refine W.ifl_ne (pc' := 88) (pc2 := 84) at_81 (fun _ => ?_) (fun hz_ => absurd (own_key _ _ _ _ _ hg) hz_)
        refine W.iconst (pc' := 85) (1) at_84 rfl ?_
        refine W.goto (pc' := 89) at_85 ?_
        refine W.zreturn at_89 (by decide) (by decide) (by decide) ?_
        rfl
      · simp only [List.length_cons, List.length_nil, Nat.reduceAdd, Nat.zero_add, List.cons_append, List.nil_append, List.set_cons_zero, List.set_cons_succ, Option.toList]
        refine W.lstore (pc' := 68) at_66 rfl ?_
        simp only [List.length_cons, List.length_nil, Nat.reduceAdd, Nat.zero_add, List.cons_append, List.nil_append, List.set_cons_zero, List.set_cons_succ, Option.toList]
        refine W.lload (pc' := 70) at_68 rfl ?_
        refine W.iloadN (pc' := 71) at_70 rfl ?_
        refine W.lloadN (pc' := 72) at_71 rfl ?_
        refine W.iloadN (pc' := 73) at_72 rfl ?_
        refine W.lload (pc' := 75) at_73 rfl ?_
        refine W.lload (pc' := 77) at_75 rfl ?_
        refine W.callStatic (pc' := 80) at_77 (tw 50 rfl) (tw 51 rfl) (tw 52 rfl) (tw 53 rfl) (m_StepPaceRestartPinLaw_expected_IJIJJ hw) (lenOf pd6 rfl) rfl rfl rfl rfl (by decide) (by decide) (fun v G' hQ => ?_)
        obtain ⟨rfl, rfl⟩ := hQ
        simp only [List.length_cons, List.length_nil, Nat.reduceAdd, Nat.zero_add, List.cons_append, List.nil_append, List.set_cons_zero, List.set_cons_succ, Option.toList]
        refine W.lcmp (pc' := 81) at_80 ?_
        refine W.ifl_ne (pc' := 88) (pc2 := 84) at_81 (fun _ => ?_) (fun hz_ => absurd (own_key0 _ _ _ _ _ hg) hz_)
        refine W.iconst (pc' := 85) (1) at_84 rfl ?_
        refine W.goto (pc' := 89) at_85 ?_
        refine W.zreturn at_89 (by decide) (by decide) (by decide) ?_
        rfl
  · rw [if_neg hm]
    refine W.callVirtual (pc' := 42) at_39 (tw 17 rfl) (tw 18 rfl) (tw 20 rfl) (tw 19 rfl) (tw 2 rfl) (tw 21 rfl) rfl rfl (m_next_batch hw (by decide)) (lenOf pd4 rfl) rfl rfl rfl rfl (by decide) (by decide) (fun v G' hQ => ?_)
    obtain ⟨rfl, rfl⟩ := hQ
    simp only [List.length_cons, List.length_nil, Nat.reduceAdd, Nat.zero_add, List.cons_append, List.nil_append, List.set_cons_zero, List.set_cons_succ, Option.toList]
    refine W.lstore (pc' := 44) at_42 rfl ?_
    simp only [List.length_cons, List.length_nil, Nat.reduceAdd, Nat.zero_add, List.cons_append, List.nil_append, List.set_cons_zero, List.set_cons_succ, Option.toList]
    refine W.aload (pc' := 46) at_44 rfl rfl ?_
    refine W.lload (pc' := 48) at_46 rfl ?_
    refine W.iconst (pc' := 49) (1) at_48 rfl ?_
    refine W.callVirtual (pc' := 52) at_49 (tw 17 rfl) (tw 18 rfl) (tw 20 rfl) (tw 19 rfl) (tw 2 rfl) (tw 21 rfl) rfl rfl (m_next_batch hw (by decide)) (lenOf pd4 rfl) rfl rfl rfl rfl (by decide) (by decide) (fun v G' hQ => ?_)
    obtain ⟨rfl, rfl⟩ := hQ
    simp only [List.length_cons, List.length_nil, Nat.reduceAdd, Nat.zero_add, List.cons_append, List.nil_append, List.set_cons_zero, List.set_cons_succ, Option.toList]
    refine W.pop2L (pc' := 53) at_52 ?_
    refine W.aload (pc' := 55) at_53 rfl rfl ?_
    refine W.callVirtual (pc' := 58) at_55 (tw 28 rfl) (tw 29 rfl) (tw 31 rfl) (tw 30 rfl) (tw 2 rfl) (tw 32 rfl) rfl rfl (m_StepPace_restart_ hw) (lenOf pd5 rfl) rfl rfl rfl rfl (by decide) (by decide) (fun v G' hQ => ?_)
    obtain ⟨rfl, rfl⟩ := hQ
    simp only [List.length_cons, List.length_nil, Nat.reduceAdd, Nat.zero_add, List.cons_append, List.nil_append, List.set_cons_zero, List.set_cons_succ, Option.toList]
    refine W.aload (pc' := 60) at_58 rfl rfl ?_
    refine W.lload (pc' := 62) at_60 rfl ?_
    refine W.iconst (pc' := 63) (0) at_62 rfl ?_
    refine W.callVirtual (pc' := 66) at_63 (tw 17 rfl) (tw 18 rfl) (tw 20 rfl) (tw 19 rfl) (tw 2 rfl) (tw 21 rfl) rfl rfl (m_next_value hw rfl) (lenOf pd4 rfl) rfl rfl rfl rfl (by decide) (by decide) (fun v G' hQ => ?_)
    obtain ⟨hg, rfl, rfl⟩ | ⟨hg, rfl, rfl⟩ := hQ
    · simp only [List.length_cons, List.length_nil, Nat.reduceAdd, Nat.zero_add, List.cons_append, List.nil_append, List.set_cons_zero, List.set_cons_succ, Option.toList]
      refine W.lstore (pc' := 68) at_66 rfl ?_
      simp only [List.length_cons, List.length_nil, Nat.reduceAdd, Nat.zero_add, List.cons_append, List.nil_append, List.set_cons_zero, List.set_cons_succ, Option.toList]
      refine W.lload (pc' := 70) at_68 rfl ?_
      refine W.iloadN (pc' := 71) at_70 rfl ?_
      refine W.lloadN (pc' := 72) at_71 rfl ?_
      refine W.iloadN (pc' := 73) at_72 rfl ?_
      refine W.lload (pc' := 75) at_73 rfl ?_
      refine W.lload (pc' := 77) at_75 rfl ?_
      refine W.callStatic (pc' := 80) at_77 (tw 50 rfl) (tw 51 rfl) (tw 52 rfl) (tw 53 rfl) (m_StepPaceRestartPinLaw_expected_IJIJJ hw) (lenOf pd6 rfl) rfl rfl rfl rfl (by decide) (by decide) (fun v G' hQ => ?_)
      obtain ⟨rfl, rfl⟩ := hQ
      simp only [List.length_cons, List.length_nil, Nat.reduceAdd, Nat.zero_add, List.cons_append, List.nil_append, List.set_cons_zero, List.set_cons_succ, Option.toList]
      refine W.lcmp (pc' := 81) at_80 ?_
      refine W.ifl_ne (pc' := 88) (pc2 := 84) at_81 (fun _ => ?_) (fun hz_ => absurd (own_key _ _ _ _ _ hg) hz_)
      refine W.iconst (pc' := 85) (1) at_84 rfl ?_
      refine W.goto (pc' := 89) at_85 ?_
      refine W.zreturn at_89 (by decide) (by decide) (by decide) ?_
      rfl
    · simp only [List.length_cons, List.length_nil, Nat.reduceAdd, Nat.zero_add, List.cons_append, List.nil_append, List.set_cons_zero, List.set_cons_succ, Option.toList]
      refine W.lstore (pc' := 68) at_66 rfl ?_
      simp only [List.length_cons, List.length_nil, Nat.reduceAdd, Nat.zero_add, List.cons_append, List.nil_append, List.set_cons_zero, List.set_cons_succ, Option.toList]
      refine W.lload (pc' := 70) at_68 rfl ?_
      refine W.iloadN (pc' := 71) at_70 rfl ?_
      refine W.lloadN (pc' := 72) at_71 rfl ?_
      refine W.iloadN (pc' := 73) at_72 rfl ?_
      refine W.lload (pc' := 75) at_73 rfl ?_
      refine W.lload (pc' := 77) at_75 rfl ?_
      refine W.callStatic (pc' := 80) at_77 (tw 50 rfl) (tw 51 rfl) (tw 52 rfl) (tw 53 rfl) (m_StepPaceRestartPinLaw_expected_IJIJJ hw) (lenOf pd6 rfl) rfl rfl rfl rfl (by decide) (by decide) (fun v G' hQ => ?_)
      obtain ⟨rfl, rfl⟩ := hQ
      simp only [List.length_cons, List.length_nil, Nat.reduceAdd, Nat.zero_add, List.cons_append, List.nil_append, List.set_cons_zero, List.set_cons_succ, Option.toList]
      refine W.lcmp (pc' := 81) at_80 ?_
      refine W.ifl_ne (pc' := 88) (pc2 := 84) at_81 (fun _ => ?_) (fun hz_ => absurd (own_key0 _ _ _ _ _ hg) hz_)
      refine W.iconst (pc' := 85) (1) at_84 rfl ?_
      refine W.goto (pc' := 89) at_85 ?_
      refine W.zreturn at_89 (by decide) (by decide) (by decide) ?_
      rfl
set_option maxRecDepth 65536 in
set_option maxHeartbeats 4000000 in
theorem comes_1 {Post : Tables → Env → Array Value → State → Outcome → State → Prop} (hpost : ∀ tb e args s v u, (limb_1_1.after args s (.returned v) u = true ∧ limb_1_2.after args s (.returned v) u = true ∧ True) → FrameEnd s (.returned v) u (Jvm.fieldLocs frame_1_writes args s ++ Jvm.arrayLocs frame_1_arrays args s ++ Jvm.staticLocs frame_1_statics s) 16 128 → Post tb e args s (.returned v) u) :
    ArmFor flags0 classFile x code maxLocals ret World_1 tables_1 room_1 Calls_1 rest_1 Pre_1 Post := by
  intro l hfl _ _ p e ha hc hk s m args below hf hA hF happ hP
  obtain ⟨hcalls, hrest, hpre⟩ := hP
  obtain ⟨-, -, -, hnamed, -, -, -, hat⟩ := (Spec.applies_iff hf).mp happ
  obtain ⟨hg, hn⟩ := and_e (Cond.before_iff.mp (show (Jvm.Cond.and given_1 narrow_1).before args s = true from hpre))
  obtain ⟨g0, h0⟩ := and_e hg
  obtain ⟨w0, w1, w2, w3, w4, w5, rfl⟩ : ∃ w0 w1 w2 w3 w4 w5 : Value, args = #[w0, w1, w2, w3, w4, w5] := by
    have hs : args.size = 6 := by simpa [Cond.value, given_1] using g0
    obtain ⟨L⟩ := args
    match L, hs with
    | [w0, w1, w2, w3, w4, w5], _ => exact ⟨w0, w1, w2, w3, w4, w5, rfl⟩
  have hw := fun d (hd : d ∈ tables_1) => atoms_spec (ws := Jvm.Cond.code x code maxLocals ret :: tables_1) hat d (List.mem_cons_of_mem _ hd)
  obtain ⟨g1, h1⟩ := and_e h0
  obtain ⟨i0, e0⟩ := is_v g1
  obtain rfl : w0 = (.int i0) := Option.some.inj e0
  obtain ⟨g2, h2⟩ := and_e h1
  obtain ⟨i1, e1⟩ := isL_v g2
  obtain rfl : w1 = (.long i1) := Option.some.inj e1
  obtain ⟨g3, h3⟩ := and_e h2
  obtain ⟨i2, e2⟩ := is_v g3
  obtain rfl : w2 = (.int i2) := Option.some.inj e2
  obtain ⟨g4, h4⟩ := and_e h3
  obtain ⟨i3, e3⟩ := isL_v g4
  obtain rfl : w3 = (.long i3) := Option.some.inj e3
  obtain ⟨g5, h5⟩ := and_e h4
  obtain ⟨i4, e4⟩ := isL_v g5
  obtain rfl : w4 = (.long i4) := Option.some.inj e4
  obtain ⟨i5, e5⟩ := is_v h5
  obtain rfl : w5 = (.int i5) := Option.some.inj e5
  obtain ⟨n, o, h1, h2, h3, _, L, rfl, ⟨G', hG', rfl, N⟩, hq⟩ := m_law (l := l) (n0 := s.heap.size) hw i0 i1 i2 i3 i4 i5 tables_1 s.heap (Rep.start s) p e ha hc hk s m _ below hf ((Spec.applies_iff_loose hf).mp happ).1 ⟨rfl, State.Warmed39.refl s, rfl⟩ trivial
  refine ⟨n, _, h1, h2, h3, hpost _ _ _ _ _ _ ⟨Cond.after_iff.mpr rfl, Cond.after_iff.mpr (eq_i res_at (Term.int_eval (1)) rfl), trivial⟩ ⟨hq.1, hq.2.1, (hq.2.2.sift fun y hy => Or.inr (N y hy)).mono (by decide) (by decide)⟩⟩
theorem main_1_1 : Claimed_1_1 := comes_1 fun _ _ _ _ _ _ h hF => ⟨h.1, hF⟩
theorem main_1_2 : Claimed_1_2 := comes_1 fun _ _ _ _ _ _ h hF => ⟨h.2.1, hF⟩
end Jvm.Pilot.@@N@@
namespace Jvm.Pilot.@@N@@
open Jvm Jvm.ClassFile Sem Op Lib Jvm.Free Jvm.Stand Jvm.Pilot.@@N@@.Jvm.D
/-! MADE BY PROGRAM (witnessworld.py) out of the Statement's table words and the real class files: 11 classes; the members and pool entries that the words name. The judged class is class 1, her method 1. -/
namespace start1
open Jvm.ClassFile
def u (s : String) : CpInfo := .utf8 (stringToUtf16 s)
/-- a pool by its gaps: so many unusable entries, then the entry; so many at the end -/
def gap : Nat → List CpInfo → List CpInfo
  | 0, r => r
  | n + 1, r => .unusable :: gap n r
def poolList (es : List (Nat × CpInfo)) (last : Nat) : List CpInfo := es.foldr (fun e r => gap e.1 (e.2 :: r)) (gap last [])
def pool (es : List (Nat × CpInfo)) (last : Nat) : Array CpInfo := ⟨poolList es last⟩
def fileOf (pool : Array CpInfo) (this : Nat) (attrs : Array Attribute := #[]) (ms : Array MethodInfo := #[]) (fl : Nat := 33) (sup : Nat := 0) (ifs : Array Nat := #[]) (fds : Array FieldInfo := #[]) : ClassFile where
  minorVersion := 0
  majorVersion := 65
  constantPool := pool
  accessFlags := fl
  thisClass := this
  superClass := sup
  interfaces := ifs
  fields := fds
  methods := ms
  attributes := attrs
def plain (name : String) (sup : Option ClassId) : Class where
  name := name
  kind := .ordinary
  loader := none
  accessFlags := 33
  super := sup
  interfaces := #[]
  cf := none
  fields := #[]
  methods := #[]
  instanceTypes := #[]
  staticTypes := #[]
  resolved := #[]
  callSites := []
  init := .initialized
  statics := none
  mirror := none

def pool0 : Array CpInfo := pool [(5, u "<init>"), (0, u "()V"), (1, .class_ 10), (1, u "java/lang/Object")] 113

def k0c0 : Code := { maxStack := 0, maxLocals := 1, code := object_method_1_code, exceptionTable := #[], attributes := #[] }
def k0m0 : Method := { name := "<init>", desc := "()V", sig := { parameters := [], returnType := none }, accessFlags := 1, code := some k0c0 }
/-- java/lang/Object -/
def k0 : Class := { plain "java/lang/Object" none with
  accessFlags := 33
  interfaces := #[]
  cf := some (fileOf pool0 8 #[] #[{ accessFlags := 1, nameIndex := 5, descriptorIndex := 6, attributes := #[] }] 33 0 #[] #[])
  fields := #[]
  methods := #[k0m0]
  instanceTypes := #[]
  staticTypes := #[]
  resolved := Array.replicate 124 none
  statics := none }

def pool1 : Array CpInfo := pool [(2, .class_ 4), (1, u "java/lang/Object"), (0, u "<init>"), (0, u "()V"), (0, .class_ 8), (0, u "com/example/millrace/millrace/datadir/StepPace"), (0, .methodref 7 10), (0, .nameAndType 5 11), (0, u "(IJI)V"), (0, .methodref 7 13), (0, .nameAndType 14 15), (0, u "next"), (0, u "(JZ)J"), (0, .methodref 7 17), (0, .nameAndType 18 6), (0, u "restart"), (0, .methodref 20 21), (0, .class_ 22), (0, .nameAndType 23 24), (0, u "com/example/millrace/millrace/datadir/StepPaceRestartPinLaw"), (0, u "expected"), (0, u "(IJIJJ)J"), (0, .methodref 26 27), (0, .class_ 28), (0, .nameAndType 29 30), (0, u "java/lang/Math"), (0, u "max"), (0, u "(II)I"), (0, .long 256), (1, .long 16), (1, .methodref 26 36), (0, .nameAndType 29 37), (0, u "(JJ)J"), (0, .methodref 26 39), (0, .nameAndType 40 37), (0, u "min"), (2, u "law"), (0, u "(IJIJJI)Z")] 3

def k1m0 : Method := { name := "<init>", desc := "()V", sig := { parameters := [], returnType := none }, accessFlags := 1, code := none }
def k1c1 : Code := { maxStack := 10, maxLocals := 17, code := code, exceptionTable := #[], attributes := #[] }
def k1m1 : Method := { name := "law", desc := "(IJIJJI)Z", sig := { parameters := [.int, .long, .int, .long, .long, .int], returnType := some .boolean }, accessFlags := 9, code := some k1c1 }
def k1c2 : Code := { maxStack := 6, maxLocals := 17, code := method_3_code, exceptionTable := #[], attributes := #[] }
def k1m2 : Method := { name := "expected", desc := "(IJIJJ)J", sig := { parameters := [.int, .long, .int, .long, .long], returnType := some .long }, accessFlags := 10, code := some k1c2 }
/-- com/example/millrace/millrace/datadir/StepPaceRestartPinLaw -/
def k1 : Class := { plain "com/example/millrace/millrace/datadir/StepPaceRestartPinLaw" (some 0) with
  accessFlags := 49
  interfaces := #[]
  cf := some (fileOf pool1 20 #[] #[{ accessFlags := 1, nameIndex := 5, descriptorIndex := 6, attributes := #[] }, { accessFlags := 9, nameIndex := 43, descriptorIndex := 44, attributes := #[] }, { accessFlags := 10, nameIndex := 23, descriptorIndex := 24, attributes := #[] }] 49 2 #[] #[])
  fields := #[]
  methods := #[k1m0, k1m1, k1m2]
  instanceTypes := #[]
  staticTypes := #[]
  resolved := Array.replicate 48 none
  statics := none }

def pool2 : Array CpInfo := pool [(1, .methodref 2 3), (0, .class_ 4), (0, .nameAndType 5 6), (0, u "java/lang/Object"), (0, u "<init>"), (0, u "()V"), (0, .fieldref 8 9), (0, .class_ 10), (0, .nameAndType 11 12), (0, u "com/example/millrace/millrace/datadir/StepPace"), (0, u "calls"), (0, u "I"), (0, .fieldref 8 14), (0, .nameAndType 15 16), (0, u "stepBytes"), (0, u "J"), (0, .fieldref 8 18), (0, .nameAndType 19 12), (0, u "ratio"), (0, .fieldref 8 21), (0, .nameAndType 22 12), (0, u "callsLeft"), (0, .fieldref 8 24), (0, .nameAndType 25 16), (0, u "owedByBatches"), (0, .fieldref 8 27), (0, .nameAndType 28 16), (0, u "owedByValues"), (0, .methodref 30 31), (0, .class_ 32), (0, .nameAndType 33 34), (0, u "java/lang/Math"), (0, u "max"), (0, u "(II)I"), (0, .fieldref 8 36), (0, .nameAndType 37 16), (0, u "stepped"), (0, .long 256), (1, .methodref 41 42), (0, .class_ 43), (0, .nameAndType 44 45), (0, u "com/example/millrace/millrace/datadir/WarmUp"), (0, u "part"), (0, u "(JJJ)J"), (0, .methodref 30 47), (0, .nameAndType 33 48), (0, u "(JJ)J"), (0, u "FIRST_STEP_SHARE"), (2, u "(IJI)V"), (2, u "restart"), (0, u "next"), (0, u "(JZ)J")] 3

def k2c0 : Code := { maxStack := 3, maxLocals := 5, code := prog_63_method_1_code, exceptionTable := #[], attributes := #[] }
def k2m0 : Method := { name := "<init>", desc := "(IJI)V", sig := { parameters := [.int, .long, .int], returnType := none }, accessFlags := 1, code := some k2c0 }
def k2c1 : Code := { maxStack := 3, maxLocals := 1, code := prog_63_method_2_code, exceptionTable := #[], attributes := #[] }
def k2m1 : Method := { name := "restart", desc := "()V", sig := { parameters := [], returnType := none }, accessFlags := 1, code := some k2c1 }
def k2c2 : Code := { maxStack := 7, maxLocals := 10, code := prog_63_method_3_code, exceptionTable := #[], attributes := #[] }
def k2m2 : Method := { name := "next", desc := "(JZ)J", sig := { parameters := [.long, .boolean], returnType := some .long }, accessFlags := 1, code := some k2c2 }
/-- com/example/millrace/millrace/datadir/StepPace -/
def k2 : Class := { plain "com/example/millrace/millrace/datadir/StepPace" (some 0) with
  accessFlags := 49
  interfaces := #[]
  cf := some (fileOf pool2 8 #[] #[{ accessFlags := 1, nameIndex := 5, descriptorIndex := 52, attributes := #[] }, { accessFlags := 1, nameIndex := 55, descriptorIndex := 6, attributes := #[] }, { accessFlags := 1, nameIndex := 56, descriptorIndex := 57, attributes := #[] }] 49 2 #[] #[{ accessFlags := 24, nameIndex := 49, descriptorIndex := 12, attributes := #[] }, { accessFlags := 18, nameIndex := 11, descriptorIndex := 12, attributes := #[] }, { accessFlags := 18, nameIndex := 15, descriptorIndex := 16, attributes := #[] }, { accessFlags := 18, nameIndex := 19, descriptorIndex := 12, attributes := #[] }, { accessFlags := 2, nameIndex := 22, descriptorIndex := 12, attributes := #[] }, { accessFlags := 2, nameIndex := 25, descriptorIndex := 16, attributes := #[] }, { accessFlags := 2, nameIndex := 28, descriptorIndex := 16, attributes := #[] }, { accessFlags := 2, nameIndex := 37, descriptorIndex := 16, attributes := #[] }])
  fields := #[{ name := "FIRST_STEP_SHARE", type := .int, accessFlags := 24, slot := 0, constantValue := 0 }, { name := "calls", type := .int, accessFlags := 18, slot := 0, constantValue := 0 }, { name := "stepBytes", type := .long, accessFlags := 18, slot := 1, constantValue := 0 }, { name := "ratio", type := .int, accessFlags := 18, slot := 2, constantValue := 0 }, { name := "callsLeft", type := .int, accessFlags := 2, slot := 3, constantValue := 0 }, { name := "owedByBatches", type := .long, accessFlags := 2, slot := 4, constantValue := 0 }, { name := "owedByValues", type := .long, accessFlags := 2, slot := 5, constantValue := 0 }, { name := "stepped", type := .long, accessFlags := 2, slot := 6, constantValue := 0 }]
  methods := #[k2m0, k2m1, k2m2]
  instanceTypes := #[.int, .long, .int, .int, .long, .long, .long]
  staticTypes := #[.int]
  resolved := Array.replicate 61 none
  statics := none }

def pool3 : Array CpInfo := pool [(1, .class_ 2), (0, u "java/lang/Math"), (1, .class_ 6), (1, u "java/lang/Object"), (0, u "<init>"), (0, u "()V"), (89, .class_ 100), (1, u "java/lang/Math$RandomNumberGeneratorHolder"), (20, u "(JJ)J"), (50, u "negativeZeroFloatBits"), (0, u "J"), (2, u "negativeZeroDoubleBits"), (21, u "max"), (2, u "min"), (43, u "$assertionsDisabled"), (0, u "Z"), (88, u "(II)I"), (2, u "twoToTheDoubleScaleDown"), (0, u "D"), (4, u "twoToTheDoubleScaleUp"), (9, u "E"), (3, u "PI"), (2, u "TAU"), (2, u "DEGREES_TO_RADIANS"), (0, u "RADIANS_TO_DEGREES")] 94

def k3m0 : Method := { name := "<init>", desc := "()V", sig := { parameters := [], returnType := none }, accessFlags := 2, code := none }
def k3c1 : Code := { maxStack := 2, maxLocals := 2, code := jdk_29_method_65_code, exceptionTable := #[], attributes := #[] }
def k3m1 : Method := { name := "max", desc := "(II)I", sig := { parameters := [.int, .int], returnType := some .int }, accessFlags := 9, code := some k3c1 }
def k3c2 : Code := { maxStack := 4, maxLocals := 4, code := jdk_29_method_66_code, exceptionTable := #[], attributes := #[] }
def k3m2 : Method := { name := "max", desc := "(JJ)J", sig := { parameters := [.long, .long], returnType := some .long }, accessFlags := 9, code := some k3c2 }
def k3c3 : Code := { maxStack := 4, maxLocals := 4, code := jdk_29_method_70_code, exceptionTable := #[], attributes := #[] }
def k3m3 : Method := { name := "min", desc := "(JJ)J", sig := { parameters := [.long, .long], returnType := some .long }, accessFlags := 9, code := some k3c3 }
/-- java/lang/Math -/
def k3 : Class := { plain "java/lang/Math" (some 0) with
  accessFlags := 49
  interfaces := #[]
  cf := some (fileOf pool3 1 #[.nestMembers #[98]] #[{ accessFlags := 2, nameIndex := 7, descriptorIndex := 8, attributes := #[] }, { accessFlags := 9, nameIndex := 198, descriptorIndex := 335, attributes := #[] }, { accessFlags := 9, nameIndex := 198, descriptorIndex := 121, attributes := #[] }, { accessFlags := 9, nameIndex := 201, descriptorIndex := 121, attributes := #[] }] 49 4 #[] #[{ accessFlags := 25, nameIndex := 354, descriptorIndex := 339, attributes := #[] }, { accessFlags := 25, nameIndex := 358, descriptorIndex := 339, attributes := #[] }, { accessFlags := 25, nameIndex := 361, descriptorIndex := 339, attributes := #[] }, { accessFlags := 26, nameIndex := 364, descriptorIndex := 339, attributes := #[] }, { accessFlags := 26, nameIndex := 365, descriptorIndex := 339, attributes := #[] }, { accessFlags := 26, nameIndex := 172, descriptorIndex := 173, attributes := #[] }, { accessFlags := 26, nameIndex := 176, descriptorIndex := 173, attributes := #[] }, { accessFlags := 8, nameIndex := 344, descriptorIndex := 339, attributes := #[] }, { accessFlags := 8, nameIndex := 338, descriptorIndex := 339, attributes := #[] }, { accessFlags := 4120, nameIndex := 245, descriptorIndex := 246, attributes := #[] }])
  fields := #[{ name := "E", type := .double, accessFlags := 25, slot := 0, constantValue := 0 }, { name := "PI", type := .double, accessFlags := 25, slot := 1, constantValue := 0 }, { name := "TAU", type := .double, accessFlags := 25, slot := 2, constantValue := 0 }, { name := "DEGREES_TO_RADIANS", type := .double, accessFlags := 26, slot := 3, constantValue := 0 }, { name := "RADIANS_TO_DEGREES", type := .double, accessFlags := 26, slot := 4, constantValue := 0 }, { name := "negativeZeroFloatBits", type := .long, accessFlags := 26, slot := 5, constantValue := 0 }, { name := "negativeZeroDoubleBits", type := .long, accessFlags := 26, slot := 6, constantValue := 0 }, { name := "twoToTheDoubleScaleUp", type := .double, accessFlags := 8, slot := 7, constantValue := 0 }, { name := "twoToTheDoubleScaleDown", type := .double, accessFlags := 8, slot := 8, constantValue := 0 }, { name := "$assertionsDisabled", type := .boolean, accessFlags := 4120, slot := 9, constantValue := 0 }]
  methods := #[k3m0, k3m1, k3m2, k3m3]
  instanceTypes := #[]
  staticTypes := #[.double, .double, .double, .double, .double, .long, .long, .double, .double, .boolean]
  resolved := Array.replicate 460 none
  statics := none }

def pool4 : Array CpInfo := pool [(2, .class_ 4), (1, u "java/lang/Object"), (0, u "<init>"), (0, u "()V"), (0, .class_ 8), (0, u "com/example/millrace/millrace/datadir/WarmUp"), (0, .long 16), (1, .methodref 12 13), (0, .class_ 14), (0, .nameAndType 15 16), (0, u "java/lang/Math"), (0, u "max"), (0, u "(JJ)J"), (0, .methodref 12 18), (0, .nameAndType 19 16), (0, u "min"), (0, u "SHARE_OF_WORK_DONE"), (0, u "I"), (4, u "part"), (0, u "(JJJ)J")] 2

def k4m0 : Method := { name := "<init>", desc := "()V", sig := { parameters := [], returnType := none }, accessFlags := 2, code := none }
def k4c1 : Code := { maxStack := 8, maxLocals := 6, code := prog_65_method_2_code, exceptionTable := #[], attributes := #[] }
def k4m1 : Method := { name := "part", desc := "(JJJ)J", sig := { parameters := [.long, .long, .long], returnType := some .long }, accessFlags := 9, code := some k4c1 }
/-- com/example/millrace/millrace/datadir/WarmUp -/
def k4 : Class := { plain "com/example/millrace/millrace/datadir/WarmUp" (some 0) with
  accessFlags := 49
  interfaces := #[]
  cf := some (fileOf pool4 7 #[] #[{ accessFlags := 2, nameIndex := 5, descriptorIndex := 6, attributes := #[] }, { accessFlags := 9, nameIndex := 26, descriptorIndex := 27, attributes := #[] }] 49 2 #[] #[{ accessFlags := 26, nameIndex := 20, descriptorIndex := 21, attributes := #[] }])
  fields := #[{ name := "SHARE_OF_WORK_DONE", type := .int, accessFlags := 26, slot := 0, constantValue := 0 }]
  methods := #[k4m0, k4m1]
  instanceTypes := #[]
  staticTypes := #[.int]
  resolved := Array.replicate 30 none
  statics := none }

def pool5 : Array CpInfo := pool [(1, u "java/lang/Cloneable"), (0, .class_ 1), (0, u "java/lang/Object"), (0, .class_ 3)] 3

/-- java/lang/Cloneable -/
def k5 : Class := { plain "java/lang/Cloneable" (some 0) with
  accessFlags := 1537
  interfaces := #[]
  cf := some (fileOf pool5 2 #[] #[] 1537 4 #[] #[])
  fields := #[]
  methods := #[]
  instanceTypes := #[]
  staticTypes := #[]
  resolved := Array.replicate 8 none
  statics := none }

def pool6 : Array CpInfo := pool [(1, u "java/io/Serializable"), (0, .class_ 1), (0, u "java/lang/Object"), (0, .class_ 3)] 3

/-- java/io/Serializable -/
def k6 : Class := { plain "java/io/Serializable" (some 0) with
  accessFlags := 1537
  interfaces := #[]
  cf := some (fileOf pool6 2 #[] #[] 1537 4 #[] #[])
  fields := #[]
  methods := #[]
  instanceTypes := #[]
  staticTypes := #[]
  resolved := Array.replicate 8 none
  statics := none }

/-- the primitive byte -/
def k7 : Class := { plain "byte" none with kind := .primitive 'B', accessFlags := 0x411 }
/-- [B -/
def k8 : Class := { plain "[B" (some 0) with kind := .array 7 .byte, interfaces := #[5, 6], accessFlags := 1041 }

/-- the primitive int -/
def k9 : Class := { plain "int" none with kind := .primitive 'I', accessFlags := 0x411 }
/-- [I -/
def k10 : Class := { plain "[I" (some 0) with kind := .array 9 .int, interfaces := #[5, 6], accessFlags := 1041 }

def heap : Heap := #[]
def classes : Array Class := #[k0, k1, k2, k3, k4, k5, k6, k7, k8, k9, k10]
def interned : List (Array UInt16 × Addr) := []
def slotsUsed : Nat := 0
def theMethod : MethodId := ⟨1, 1⟩
def args0 : Array Value := #[.int 5, .long 7, .int 2, .long 3, .long 4, .int 1]
def aboutOver (below : List Frame) : State where
  vm := { classes := classes, interned := interned.toArray }
  heap := heap
  slotsUsed := slotsUsed
  threads := #[{ frames := .invoking theMethod args0 :: below }]
def below0 : List Frame := [.native { method := ⟨0, 0⟩, args := #[] }]
def about1 : State := aboutOver below0
def p0 : Program := .bare "" "" ""
def e0 : Env := launch0.env 0 0 0
theorem w_frames : about1.frames = Frame.invoking theMethod args0 :: below0 := rfl
set_option maxRecDepth 65536 in
theorem w_args : argsFit about1.vm theMethod args0 = true := by decide +kernel
set_option maxRecDepth 65536 in
theorem w_heap : heapFits about1 = true := by decide +kernel
set_option maxRecDepth 65536 in
theorem w_runnable : about1.curStatus? = some .runnable := by decide +kernel
set_option maxRecDepth 65536 in
theorem w_alone : about1.alone = true := by decide +kernel
set_option maxRecDepth 65536 in
theorem w_named : about1.methodNamed? x = some theMethod := by decide +kernel
set_option maxRecDepth 65536 in
theorem w_hears : about1.hears theMethod below0 = true := by decide +kernel
set_option maxRecDepth 65536 in
theorem w_ripe : about1.ripe theMethod args0 below0 = true := by decide +kernel
theorem w_running : about1.status = .running := rfl
set_option maxRecDepth 65536 in
theorem w_room : about1.hasRoom e0.platform room_1 = true :=
  launch0.hasRoom_least _ room_1 (by decide +kernel) (by decide +kernel) (by decide +kernel) (by decide +kernel) (by decide +kernel) (by decide +kernel)
theorem allAtoms_all (ts : List Jvm.Cond) (a : Array Jvm.Value) (st : Jvm.State) : (allAtoms ts).before a st = ts.all (fun c => c.before a st) := by
  induction ts with
  | nil => rfl
  | cons c t ih =>
    show (Jvm.Cond.and c (allAtoms t)).before a st = _
    rw [Jvm.Cond.before_and, ih, List.all_cons]
def words1 : List Jvm.Cond := Jvm.Cond.code x code maxLocals ret :: tables_1
/-- a 'code' word, met by the world's own term for the bytes: nothing is compared byte by byte -/
theorem code_word {y : MethodName} {bytes : ByteArray} {mx : Nat} {rt : Option FieldType} {a : Array Value} {s : State} {m : MethodId} {meth : Method} {c : Code} (h1 : s.methodNamed? y = some m) (h2 : s.vm.method? m = some meth) (h3 : meth.code = some c) (h4 : c.code = bytes)
    (h5 : (c.maxLocals == mx && c.exceptionTable.isEmpty && decide (c.maxStack ≤ mostOperands) && decide (meth.sig.returnType = rt) && !meth.locks && decide (parseMethodDescriptor y.desc = some meth.sig)) = true) : (Jvm.Cond.code y bytes mx rt).before a s = true := by
  simp only [Bool.and_eq_true, beq_iff_eq, Bool.not_eq_true', decide_eq_true_eq] at h5
  obtain ⟨⟨⟨⟨⟨g1, g2⟩, g3⟩, g4⟩, g5⟩, g6⟩ := h5
  simp [Cond.before, Cond.holds, Cond.value, h1, h2, h3, h4, g1, g2, g3, g4, g5, g6]
def isCode : Jvm.Cond → Bool
  | .code _ _ _ _ => true
  | _ => false
theorem all_split {L : List Jvm.Cond} {P : Jvm.Cond → Bool} (h1 : L.all (fun c => isCode c || P c) = true) (h2 : ∀ c ∈ L.filter isCode, P c = true) : L.all P = true := by
  refine List.all_eq_true.mpr fun c hc => ?_
  have h := List.all_eq_true.mp h1 c hc
  rcases Bool.eq_false_or_eq_true (isCode c) with hi | hi
  · exact h2 c (List.mem_filter.mpr ⟨hc, hi⟩)
  · simpa [hi] using h
set_option maxRecDepth 65536 in
theorem w_c0 : (Jvm.Cond.code x code maxLocals ret).before args0 about1 = true := code_word (m := ⟨1, 1⟩) (meth := k1m1) (c := k1c1) (by decide +kernel) rfl rfl rfl (by decide +kernel)
set_option maxRecDepth 65536 in
theorem w_c1 : (Jvm.Cond.code ({ cls := "com/example/millrace/millrace/datadir/StepPace", name := "<init>", desc := "(IJI)V" } : Jvm.MethodName) prog_63_method_1_code (5 : Nat) (Option.none : Option Jvm.ClassFile.FieldType)).before args0 about1 = true := code_word (m := ⟨2, 0⟩) (meth := k2m0) (c := k2c0) (by decide +kernel) rfl rfl rfl (by decide +kernel)
set_option maxRecDepth 65536 in
theorem w_c2 : (Jvm.Cond.code ({ cls := "java/lang/Object", name := "<init>", desc := "()V" } : Jvm.MethodName) object_method_1_code (1 : Nat) (Option.none : Option Jvm.ClassFile.FieldType)).before args0 about1 = true := code_word (m := ⟨0, 0⟩) (meth := k0m0) (c := k0c0) (by decide +kernel) rfl rfl rfl (by decide +kernel)
set_option maxRecDepth 65536 in
theorem w_c3 : (Jvm.Cond.code ({ cls := "com/example/millrace/millrace/datadir/StepPace", name := "next", desc := "(JZ)J" } : Jvm.MethodName) prog_63_method_3_code (10 : Nat) (Option.some Jvm.ClassFile.FieldType.long)).before args0 about1 = true := code_word (m := ⟨2, 2⟩) (meth := k2m2) (c := k2c2) (by decide +kernel) rfl rfl rfl (by decide +kernel)
set_option maxRecDepth 65536 in
theorem w_c4 : (Jvm.Cond.code ({ cls := "java/lang/Math", name := "max", desc := "(II)I" } : Jvm.MethodName) jdk_29_method_65_code (2 : Nat) (Option.some Jvm.ClassFile.FieldType.int)).before args0 about1 = true := code_word (m := ⟨3, 1⟩) (meth := k3m1) (c := k3c1) (by decide +kernel) rfl rfl rfl (by decide +kernel)
set_option maxRecDepth 65536 in
theorem w_c5 : (Jvm.Cond.code ({ cls := "com/example/millrace/millrace/datadir/StepPace", name := "restart", desc := "()V" } : Jvm.MethodName) prog_63_method_2_code (1 : Nat) (Option.none : Option Jvm.ClassFile.FieldType)).before args0 about1 = true := code_word (m := ⟨2, 1⟩) (meth := k2m1) (c := k2c1) (by decide +kernel) rfl rfl rfl (by decide +kernel)
set_option maxRecDepth 65536 in
theorem w_c6 : (Jvm.Cond.code ({ cls := "com/example/millrace/millrace/datadir/WarmUp", name := "part", desc := "(JJJ)J" } : Jvm.MethodName) prog_65_method_2_code (6 : Nat) (Option.some Jvm.ClassFile.FieldType.long)).before args0 about1 = true := code_word (m := ⟨4, 1⟩) (meth := k4m1) (c := k4c1) (by decide +kernel) rfl rfl rfl (by decide +kernel)
set_option maxRecDepth 65536 in
theorem w_c7 : (Jvm.Cond.code ({ cls := "java/lang/Math", name := "max", desc := "(JJ)J" } : Jvm.MethodName) jdk_29_method_66_code (4 : Nat) (Option.some Jvm.ClassFile.FieldType.long)).before args0 about1 = true := code_word (m := ⟨3, 2⟩) (meth := k3m2) (c := k3c2) (by decide +kernel) rfl rfl rfl (by decide +kernel)
set_option maxRecDepth 65536 in
theorem w_c8 : (Jvm.Cond.code ({ cls := "java/lang/Math", name := "min", desc := "(JJ)J" } : Jvm.MethodName) jdk_29_method_70_code (4 : Nat) (Option.some Jvm.ClassFile.FieldType.long)).before args0 about1 = true := code_word (m := ⟨3, 3⟩) (meth := k3m3) (c := k3c3) (by decide +kernel) rfl rfl rfl (by decide +kernel)
set_option maxRecDepth 65536 in
theorem w_c9 : (Jvm.Cond.code ({ cls := "com/example/millrace/millrace/datadir/StepPaceRestartPinLaw", name := "expected", desc := "(IJIJJ)J" } : Jvm.MethodName) method_3_code (17 : Nat) (Option.some Jvm.ClassFile.FieldType.long)).before args0 about1 = true := code_word (m := ⟨1, 2⟩) (meth := k1m2) (c := k1c2) (by decide +kernel) rfl rfl rfl (by decide +kernel)
def codes1 : List Jvm.Cond := [Jvm.Cond.code x code maxLocals ret, Jvm.Cond.code ({ cls := "com/example/millrace/millrace/datadir/StepPace", name := "<init>", desc := "(IJI)V" } : Jvm.MethodName) prog_63_method_1_code (5 : Nat) (Option.none : Option Jvm.ClassFile.FieldType), Jvm.Cond.code ({ cls := "java/lang/Object", name := "<init>", desc := "()V" } : Jvm.MethodName) object_method_1_code (1 : Nat) (Option.none : Option Jvm.ClassFile.FieldType), Jvm.Cond.code ({ cls := "com/example/millrace/millrace/datadir/StepPace", name := "next", desc := "(JZ)J" } : Jvm.MethodName) prog_63_method_3_code (10 : Nat) (Option.some Jvm.ClassFile.FieldType.long), Jvm.Cond.code ({ cls := "java/lang/Math", name := "max", desc := "(II)I" } : Jvm.MethodName) jdk_29_method_65_code (2 : Nat) (Option.some Jvm.ClassFile.FieldType.int), Jvm.Cond.code ({ cls := "com/example/millrace/millrace/datadir/StepPace", name := "restart", desc := "()V" } : Jvm.MethodName) prog_63_method_2_code (1 : Nat) (Option.none : Option Jvm.ClassFile.FieldType), Jvm.Cond.code ({ cls := "com/example/millrace/millrace/datadir/WarmUp", name := "part", desc := "(JJJ)J" } : Jvm.MethodName) prog_65_method_2_code (6 : Nat) (Option.some Jvm.ClassFile.FieldType.long), Jvm.Cond.code ({ cls := "java/lang/Math", name := "max", desc := "(JJ)J" } : Jvm.MethodName) jdk_29_method_66_code (4 : Nat) (Option.some Jvm.ClassFile.FieldType.long), Jvm.Cond.code ({ cls := "java/lang/Math", name := "min", desc := "(JJ)J" } : Jvm.MethodName) jdk_29_method_70_code (4 : Nat) (Option.some Jvm.ClassFile.FieldType.long), Jvm.Cond.code ({ cls := "com/example/millrace/millrace/datadir/StepPaceRestartPinLaw", name := "expected", desc := "(IJIJJ)J" } : Jvm.MethodName) method_3_code (17 : Nat) (Option.some Jvm.ClassFile.FieldType.long)]
set_option maxRecDepth 65536 in
theorem codes_eq : words1.filter isCode = codes1 := rfl
theorem w_codes : ∀ c ∈ words1.filter isCode, c.before args0 about1 = true := by
  rw [codes_eq]
  intro c hc
  simp only [codes1, List.mem_cons, List.not_mem_nil, or_false] at hc
  rcases hc with rfl | rfl | rfl | rfl | rfl | rfl | rfl | rfl | rfl | rfl
  · exact w_c0
  · exact w_c1
  · exact w_c2
  · exact w_c3
  · exact w_c4
  · exact w_c5
  · exact w_c6
  · exact w_c7
  · exact w_c8
  · exact w_c9
set_option maxRecDepth 65536 in
theorem w_t1 : (words1.take 24).all (fun c => isCode c || c.before args0 about1) = true := by decide +kernel
set_option maxRecDepth 65536 in
theorem w_t2 : ((words1.drop 24).take 24).all (fun c => isCode c || c.before args0 about1) = true := by decide +kernel
set_option maxRecDepth 65536 in
theorem w_t3 : ((words1.drop 24).drop 24).all (fun c => isCode c || c.before args0 about1) = true := by decide +kernel
theorem w_tables : (allAtoms (Jvm.Cond.code x code maxLocals ret :: tables_1)).before args0 about1 = true := by
  rw [allAtoms_all]
  show words1.all (fun c => c.before args0 about1) = true
  refine all_split ?_ w_codes
  rw [← List.take_append_drop 24 words1, List.all_append, w_t1, ← List.take_append_drop 24 (words1.drop 24), List.all_append, w_t2, w_t3]
  rfl
set_option maxRecDepth 65536 in
theorem w_case : (Jvm.Cond.and given_1 narrow_1).before args0 about1 = true := by decide +kernel
theorem w_applies : (headSpec (Jvm.Cond.code x code maxLocals ret :: tables_1) room_1).applies x e0.platform about1 = true :=
  (Spec.applies_iff w_frames).mpr ⟨w_running, w_runnable, w_alone, w_named, w_hears, w_ripe, w_room, w_tables⟩
theorem atStart : AtStart classFile x code maxLocals ret World_1 tables_1 room_1 Calls_1 rest_1 Pre_1 launch0 p0 e0 about1 theMethod args0 below0 :=
  ⟨lists_1, trivial, launch0.admits_env _ _ _, launch0.least_env, fairChoices_fair.cas, fairChoices_fair.clock, w_frames, w_args, w_heap, w_applies, trivial, trivial, w_case⟩
end start1
theorem witness_1 : WitnessClaimed_1 := ⟨start1.p0, start1.e0, start1.about1, start1.theMethod, start1.args0, start1.below0, start1.atStart⟩
end Jvm.Pilot.@@N@@
