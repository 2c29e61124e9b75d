import JvmDerived
import JvmDerived.Pilot.@@N@@Statement
import JvmDerived.Pilot.@@N@@Code
set_option linter.unusedVariables false
set_option linter.unusedSimpArgs false
@@BLOCK:NumsL.lean.txt@@
namespace Jvm.OwnWR
open Sem ClassFile Op Lib Jvm.Free Jvm.Stand Jvm.LawKit Jvm.RoadKit
/-! ## the ghost heap, its objects under names of their own: the reference .ref k is the k-th object; ad k: where it lies -/
abbrev Fd := String × String × String × FieldType
abbrev Sig := List (String × Nat × List Fd)
abbrev Obj := (Nat ⊕ FieldType) × List Value
abbrev Ghost := List Obj
abbrev Ad := Nat → Addr
def rv (ad : Ad) : Value → Value
  | .ref k => .ref (ad k)
  | v => v
def rs (ad : Ad) : Slot → Slot
  | .val v => .val (rv ad v)
  | s => s
/-- the references of a value are among the first n objects -/
def sc (n : Nat) : Value → Bool
  | .ref k => Nat.blt k n
  | _ => true
def scS (n : Nat) : Slot → Bool
  | .val v => sc n v
  | _ => true
def scG (n : Nat) (G : Ghost) : Prop := ∀ (k : Nat) (o : Obj), G[k]? = some o → ∀ v ∈ o.2, sc n v = true
/-- an object of which something is known -/
def kn (sig : Sig) : Obj → Bool
  | (.inl ci, _) => (sig[ci]?).isSome
  | (.inr _, _) => true
def ObjAt (sig : Sig) (Z : State) (h : Heap) (ad : Ad) (a : Addr) : Obj → Prop
  | (.inl ci, vs) => ∀ (C : String) (n : Nat) (fs : List Fd), sig[ci]? = some (C, n, fs) → Exa Z h a C ∧ vs.length = fs.length ∧ ∀ (i : Nat) (O nm d : String) (ty : FieldType) (v : Value), fs[i]? = some (O, nm, d, ty) → vs[i]? = some v → Fld Z h a O nm d (rv ad v)
  | (.inr ty, vs) => ∃ c : Cell, Arr Z h a c ty ∧ c.slots.toList = vs.map (rv ad) ∧ vs.length < 2 ^ 31 ∧ (∀ v ∈ vs, fits ty (rv ad v) = true) ∧ (vs ≠ [] → ∀ C, ty = .object C → Ovr Z c.cls C)
/-- ol: where the old objects lie that the walk knows (statics' arrays): the first ones of the ghost heap -/
def Rep (sig : Sig) (Z : State) (n0 : Nat) (ol : List Addr) (ad : Ad) (h : Heap) (G : Ghost) : Prop :=
  n0 = Z.heap.size ∧ Ext Z.heap h ∧ (∀ (k : Nat) (a : Addr), ol[k]? = some a → ad k = a ∧ Nat.lt a n0) ∧ ol.length ≤ G.length ∧
  (∀ (k : Nat) (o : Obj), G[k]? = some o → kn sig o = true → ObjAt sig Z h ad (ad k) o ∧ (ol.length ≤ k → Nat.le n0 (ad k)) ∧ Nat.lt (ad k) h.size) ∧
  (∀ (k k' : Nat) (o o' : Obj), G[k]? = some o → G[k']? = some o' → kn sig o = true → kn sig o' = true → ad k = ad k' → k = k') ∧ scG G.length G
def SigOk (tab : List Jvm.Cond) (sig : Sig) : Prop :=
  ∀ (ci : Nat) (C : String) (n : Nat) (fs : List Fd), sig[ci]? = some (C, n, fs) → Jvm.Cond.instantiable C n ∈ tab ∧ (∀ f ∈ fs, (Jvm.Cond.lays C f.1 f.2.1 f.2.2.1 ∈ tab ∨ Jvm.Cond.laysFinal C f.1 f.2.1 f.2.2.1 ∈ tab) ∧ parseFieldDescriptor f.2.2.1 = some f.2.2.2) ∧ (fs.map (·.2.1)).Nodup
theorem tw {α : Type} {l : List α} (i : Nat) {x : α} (h : l[i]? = some x) : x ∈ l := List.mem_of_getElem? h
abbrev JT := Nat → List Slot → List Value → Ghost → Nat → Nat → Prop
abbrev Post := Option Value → Ghost → Prop
def Agr (n : Nat) (ad ad' : Ad) : Prop := ∀ k, k < n → ad' k = ad k
/-- the frame of an end; fl: strings may have been interned -/
def EndW (s : State) (o : Outcome) (t : State) (L : List Loc) (k n : Nat) : Prop := (∃ v, o = .returned v) ∧ s.Warmed39 t.vm ∧ s.Booked t.vm t.heap.size ∧ s.sameButNew ({ t with vm := s.vm } : State) L k n
def EndP (fl : Bool) (s : State) (o : Outcome) (t : State) (L : List Loc) (k n : Nat) : Prop := if fl = true then EndW s o t L k n else FrameEnd s o t L k n
def Bas (fl : Bool) (s : State) (vm0 : Vm) (n1 : Nat) : Prop := if fl = true then s.Since vm0 n1 else vm0 = s.vm
def Fin1 (fl : Bool) (sig : Sig) (Z : State) (n0 : Nat) (ol : List Addr) (ad0 : Ad) (N0 : Nat) (Q : Post) (KC KS : Nat) (p : Program) (e : Env) (below : List Frame) (s : State) (U : State) : Prop :=
  ∃ t o, Steps p.tables e below U t ∧ t.status = .running ∧ Ended t below o ∧ ∃ v L, o = .returned v ∧ (∃ ad' G' vg, v = Option.map (rv ad') vg ∧ Agr N0 ad0 ad' ∧ N0 ≤ G'.length ∧ Rep sig Z n0 ol ad' t.heap G' ∧ (∀ w, vg = some w → sc G'.length w = true) ∧ Q vg G' ∧ Fr n0 L) ∧ EndP fl s o t L KC KS
def Wp (fl : Bool) (sig : Sig) (Z : State) (n0 : Nat) (ol : List Addr) (ad0 : Ad) (N0 : Nat) (Q : Post) (p : Program) (l : Launch) (e : Env) (R : Room) (s : State) (m : MethodId) (args : Array Value) (below : List Frame) (meth : Method) (c : Code) : JT :=
  fun pc Ls S G k sl => ∀ vm0 n1 ad T locs, Stand p l e R (s.setVm vm0) m args below meth c T locs k sl → Bas fl s vm0 n1 → Nat.le n1 T.heap.size → Agr N0 ad0 ad → N0 ≤ G.length → Rep sig Z n0 ol ad T.heap G → Fr n0 locs →
    Fin1 fl sig Z n0 ol ad0 N0 Q R.cells R.slots p e below s (T.setTop (mkF m pc (Ls.map (rs ad)).toArray (S.map (rv ad))))
def Walk (fl : Bool) (tab : List Jvm.Cond) (sig : Sig) (l : Launch) (Z : State) (a0 : Array Value) (n0 : Nat) (ol : List Addr) (own nm : String) (bytes : ByteArray) (maxL : Nat) (ret : Option FieldType) (R : Room) (Q : Post) (J : JT) : Prop :=
  ∃ ad0 N0 p e s m args below meth c, J = Wp fl sig Z n0 ol ad0 N0 Q p l e R s m args below meth c ∧ p.tables.exec = Jvm.exec ∧ c.code = bytes ∧ c.maxLocals = maxL ∧ meth.sig.returnType = ret ∧ meth.locks = false ∧ meth.name = nm ∧ Z.Warmed39 s.vm ∧ s.vm.findClass own = some m.cls ∧ (∀ d ∈ tab, d.before a0 Z = true) ∧ SigOk tab sig
def Meth (sig : Sig) (l : Launch) (Z : State) (n0 : Nat) (ol : List Addr) (y : MethodName) (bytes : ByteArray) (maxL : Nat) (ret : Option FieldType) (R : Room) (as : List Value) (G : Ghost) (Q : Post) : Prop :=
  ∀ (ws : List Jvm.Cond) (h0 : Heap) (ad : Ad), Rep sig Z n0 ol ad h0 G → MetFree l y (head1 (Jvm.Cond.code y bytes maxL ret :: ws) R) (fun a U => a = (as.map (rv ad)).toArray ∧ Z.Warmed39 U.vm ∧ U.heap = h0) (fun _ _ _ _ _ => True)
    (fun _ U o U' => ∃ v L, o = .returned v ∧ (∃ ad' G' vg, v = Option.map (rv ad') vg ∧ Agr G.length ad ad' ∧ G.length ≤ G'.length ∧ Rep sig Z n0 ol ad' U'.heap G' ∧ (∀ w, vg = some w → sc G'.length w = true) ∧ Q vg G' ∧ Fr n0 L ∧ Nat.le h0.size U'.heap.size) ∧ FrameEnd U o U' L R.cells R.slots)
def MethW (sig : Sig) (l : Launch) (Z : State) (n0 : Nat) (ol : List Addr) (y : MethodName) (bytes : ByteArray) (maxL : Nat) (ret : Option FieldType) (R : Room) (as : List Value) (G : Ghost) (Q : Post) : Prop :=
  ∀ (ws : List Jvm.Cond) (h0 : Heap) (ad : Ad), Rep sig Z n0 ol ad h0 G → MetFree l y (head1 (Jvm.Cond.code y bytes maxL ret :: ws) R) (fun a U => a = (as.map (rv ad)).toArray ∧ Z.Warmed39 U.vm ∧ U.heap = h0) (fun _ _ _ _ _ => True)
    (fun _ U o U' => ∃ v L, o = .returned v ∧ (∃ ad' G' vg, v = Option.map (rv ad') vg ∧ Agr G.length ad ad' ∧ G.length ≤ G'.length ∧ Rep sig Z n0 ol ad' U'.heap G' ∧ (∀ w, vg = some w → sc G'.length w = true) ∧ Q vg G' ∧ Fr n0 L) ∧ EndW U o U' L R.cells R.slots)
/-! ## names and places -/
theorem rv_isRef (ad : Ad) (v : Value) : (rv ad v).isRef = v.isRef := by cases v <;> rfl
theorem rv_cat (ad : Ad) (v : Value) : (rv ad v).category = v.category := by cases v <;> rfl
theorem cat_map (ad : Ad) (S : List Value) : ((S.map (rv ad)).map fun v => v.category) = S.map fun v => v.category := by
  rw [List.map_map]; exact List.map_congr_left fun v _ => rv_cat ad v
theorem rv_agr {n : Nat} {ad ad' : Ad} (h : Agr n ad ad') {v : Value} (hv : sc n v = true) : rv ad' v = rv ad v := by
  cases v <;> first | rfl | skip
  rename_i k
  show Value.ref (ad' k) = Value.ref (ad k)
  rw [h k (by simpa [sc] using hv)]
theorem rs_agr {n : Nat} {ad ad' : Ad} (h : Agr n ad ad') {x : Slot} (hx : scS n x = true) : rs ad' x = rs ad x := by
  cases x <;> first | rfl | (show Slot.val _ = Slot.val _; rw [rv_agr h hx])
theorem map_agr {n : Nat} {ad ad' : Ad} (h : Agr n ad ad') {S : List Value} (hS : S.all (sc n) = true) : S.map (rv ad') = S.map (rv ad) := List.map_congr_left fun v hv => rv_agr h (List.all_eq_true.mp hS v hv)
theorem maps_agr {n : Nat} {ad ad' : Ad} (h : Agr n ad ad') {L : List Slot} (hL : L.all (scS n) = true) : L.map (rs ad') = L.map (rs ad) := List.map_congr_left fun v hv => rs_agr h (List.all_eq_true.mp hL v hv)
theorem Agr.trans {n m : Nat} {a b c : Ad} (h1 : Agr n a b) (h2 : Agr m b c) (hn : n ≤ m) : Agr n a c := fun k hk => (h2 k (by omega)).trans (h1 k hk)
theorem sc_mono {n m : Nat} (h : n ≤ m) {v : Value} (hv : sc n v = true) : sc m v = true := by
  cases v <;> first | rfl | skip
  rename_i k
  have : k < n := by simpa [sc] using hv
  simpa [sc] using Nat.lt_of_lt_of_le this h
/-- the local variables that the arguments fill -/
def laid : List Value → List Slot
  | [] => []
  | .long v :: r => .val (.long v) :: .second :: laid r
  | .double v :: r => .val (.double v) :: .second :: laid r
  | .int v :: r => .val (.int v) :: laid r
  | .float v :: r => .val (.float v) :: laid r
  | .ref v :: r => .val (.ref v) :: laid r
  | .null :: r => .val .null :: laid r
  | .retAddr v :: r => .val (.retAddr v) :: laid r
theorem laid_fold : ∀ (as : List Value) (acc : Array Slot), as.foldl (fun acc v => if v.category = 2 then (acc.push (.val v)).push .second else acc.push (.val v)) acc = acc ++ (laid as).toArray
  | [], acc => by simp [laid]
  | v :: r, acc => by
    rw [List.foldl_cons, laid_fold r]
    cases v <;> simp [laid, Value.category]
theorem laid_map (ad : Ad) : ∀ as : List Value, laid (as.map (rv ad)) = (laid as).map (rs ad)
  | [] => rfl
  | v :: r => by cases v <;> simp [laid, rv, rs, laid_map ad r]
theorem ent {as : List Value} {Ls : List Slot} {n : Nat} (h : laid as ++ List.replicate (n - (laid as).length) .unset = Ls) (ad : Ad) (m : MethodId) : entryFrame m (as.map (rv ad)).toArray n = mkF m 0 (Ls.map (rs ad)).toArray [] := by
  subst h
  unfold entryFrame argsToLocals
  simp only [List.foldl_toArray']
  have e := laid_fold (as.map (rv ad)) #[]
  simp only [e]
  simp [mkF, laid_map, rs]
theorem isOfB {fl : Bool} {s : State} {vm0 : Vm} {n1 : Nat} (h : Bas fl s vm0 n1) : s.Warmed39 vm0 := by
  unfold Bas at h
  split at h
  · exact h.1
  · rw [h]; exact State.Warmed39.refl s
section Body
variable {tab : List Jvm.Cond} {sig : Sig} {l : Launch} {Z : State} {a0 : Array Value} {n0 : Nat} {ol : List Addr} {bytes : ByteArray} {maxL : Nat} {ret : Option FieldType} {R : Room} {Q : Post}
theorem Meth.of {y : MethodName} {as : List Value} {G : Ghost} {Ls : List Slot} (hpl : plainFor y = true) (hw : ∀ d ∈ tab, d.before a0 Z = true) (hS : SigOk tab sig)
    (hent : ∀ ad m, entryFrame m (as.map (rv ad)).toArray maxL = mkF m 0 (Ls.map (rs ad)).toArray [])
    (body : ∀ J, Walk false tab sig l Z a0 n0 ol y.cls y.name bytes maxL ret R Q J → J 0 Ls [] G 0 0) : Meth sig l Z n0 ol y bytes maxL ret R as G Q := by
  intro ws h0 ad hrep
  refine MetFree.of_bodySF hpl hisR ?_
  intro p e s m args below meth c s₁ Bd hml0 hP hK
  obtain ⟨rfl, hZ, hh⟩ := hP
  have hown : s.vm.findClass y.cls = some m.cls := findClass_of_methodNamed Bd.named
  have hnm := (name_of_methodNamed Bd.named Bd.method).1
  have X0 : Stand p l e R s m (as.map (rv ad)).toArray below meth c s₁ [] 0 0 := Stand.of_body Bd
  have e0 : s₁.heap = h0 := by rw [← hh, Bd.state]; rfl
  have J := body _ ⟨ad, G.length, p, e, s, m, (as.map (rv ad)).toArray, below, meth, c, rfl, Bd.exec, Bd.bytes, hml0, Bd.returns, Bd.notSynchronized, hnm, hZ, hown, hw, hS⟩ s.vm 0 ad s₁ [] X0 rfl (Nat.zero_le _) (fun _ _ => rfl) (Nat.le_refl _) (by rw [e0]; exact hrep) (Fr.nil n0)
  obtain ⟨t, o, st, r1, r2, v, L, r3, r4, r5⟩ := J
  obtain ⟨ad', G', vg, q1, q2, q3, q4, q5, q6, q7⟩ := r4
  have r6 : FrameEnd s o t L R.cells R.slots := r5
  have hsz : Nat.le h0.size t.heap.size := by rw [← hh]; exact r6.2.2.2.1
  exact ⟨t, o, castTop (hent ad m) st, r1, r2, v, L, r3, ⟨ad', G', vg, q1, q2, q3, q4, q5, q6, q7, hsz⟩, r6⟩
theorem MethW.of {y : MethodName} {as : List Value} {G : Ghost} {Ls : List Slot} (hpl : plainFor y = true) (hw : ∀ d ∈ tab, d.before a0 Z = true) (hS : SigOk tab sig)
    (hent : ∀ ad m, entryFrame m (as.map (rv ad)).toArray maxL = mkF m 0 (Ls.map (rs ad)).toArray [])
    (body : ∀ J, Walk true tab sig l Z a0 n0 ol y.cls y.name bytes maxL ret R Q J → J 0 Ls [] G 0 0) : MethW sig l Z n0 ol y bytes maxL ret R as G Q := by
  intro ws h0 ad hrep
  refine MetFree.of_bodySF hpl hisR ?_
  intro p e s m args below meth c s₁ Bd hml0 hP hK
  obtain ⟨rfl, hZ, hh⟩ := hP
  have hown : s.vm.findClass y.cls = some m.cls := findClass_of_methodNamed Bd.named
  have hnm := (name_of_methodNamed Bd.named Bd.method).1
  have X0 : Stand p l e R s m (as.map (rv ad)).toArray below meth c s₁ [] 0 0 := Stand.of_body Bd
  have e0 : s₁.heap = h0 := by rw [← hh, Bd.state]; rfl
  have J := body _ ⟨ad, G.length, p, e, s, m, (as.map (rv ad)).toArray, below, meth, c, rfl, Bd.exec, Bd.bytes, hml0, Bd.returns, Bd.notSynchronized, hnm, hZ, hown, hw, hS⟩ s.vm 0 ad s₁ [] X0 ((State.WarmedH.refl s).since 0) (Nat.zero_le _) (fun _ _ => rfl) (Nat.le_refl _) (by rw [e0]; exact hrep) (Fr.nil n0)
  obtain ⟨t, o, st, r1, r2, v, L, r3, r4, r5⟩ := J
  exact ⟨t, o, castTop (hent ad m) st, r1, r2, v, L, r3, r4, r5⟩
end Body
/-! ## the local variables as a list -/
def ok1 : Option Slot → Bool
  | some .unset => true
  | some (.val (.long _)) => false
  | some (.val (.double _)) => false
  | some (.val _) => true
  | _ => false
theorem ok1_map (ad : Ad) (Ls : List Slot) (i : Nat) : ok1 (Ls.map (rs ad))[i]? = ok1 Ls[i]? := by
  rw [List.getElem?_map]
  cases Ls[i]? with
  | none => rfl
  | some o => cases o with
    | val v => cases v <;> rfl
    | _ => rfl
theorem store_one {Ls : List Slot} {i : Nat} {v : Value} (ho : ok1 Ls[i]? = true) (hv : v.category = 1) : storeLocals Ls.toArray i v = some (Ls.set i (.val v)).toArray := by
  have hlt : i < Ls.length := by
    rcases Nat.lt_or_ge i Ls.length with h | h
    · exact h
    · rw [List.getElem?_eq_none h] at ho; cases ho
  cases hq : Ls[i]? with
  | none => rw [hq] at ho; cases ho
  | some o =>
    rw [hq] at ho
    have e := XS.store1 (l := Ls.toArray) (i := i) (v := v) (o := o) (by simpa using hq) (by
      cases o with
      | unset => exact Or.inl rfl
      | second => cases ho
      | val w => exact Or.inr ⟨w, rfl, by cases w <;> first | rfl | (cases ho)⟩) hv
    rw [e]
    simp
theorem store_map {ad : Ad} {Ls : List Slot} {i : Nat} {v : Value} (ho : ok1 Ls[i]? = true) (hv : v.category = 1) : storeLocals (Ls.map (rs ad)).toArray i (rv ad v) = some ((Ls.set i (.val v)).map (rs ad)).toArray := by
  rw [store_one (by rw [ok1_map]; exact ho) (by rw [rv_cat]; exact hv), List.map_set]; rfl
theorem get_map {ad : Ad} {Ls : List Slot} {i : Nat} {v : Value} (h : Ls[i]? = some (.val v)) : (Ls.map (rs ad)).toArray[i]? = some (.val (rv ad v)) := by
  simp [h, rs]
section Steps
variable {fl : Bool} {tab : List Jvm.Cond} {sig : Sig} {l : Launch} {Z : State} {a0 : Array Value} {n0 : Nat} {ol : List Addr} {own nm : String} {bytes : ByteArray} {maxL : Nat} {ret : Option FieldType} {R : Room} {Q : Post} {J : JT} {pc pc' : Nat} {Ls : List Slot} {S : List Value} {G : Ghost} {k sl : Nat}
theorem Walk.iload (W : Walk fl tab sig l Z a0 n0 ol own nm bytes maxL ret R Q J) {i : Nat} {v : Int32} (hd : decode bytes pc = .ok (.iload i, 2)) (hl : Ls[i]? = some (.val (.int v))) (hr : J pc' Ls (.int v :: S) G k sl) (hp : pc + 2 = pc' := by rfl) : J pc Ls (S) G k sl := by
  obtain ⟨ad0, N0, p, e, s, m, args, below, meth, c, rfl, hx, hby, hml, hret, hlk, hnm, hZ0, hown0, hw, hS⟩ := W
  subst hp
  intro vm0 n1 ad T locs X hB hn1 hA hN hG hF
  have hZ : Z.Warmed39 (s.setVm vm0).vm := State.Warmed39.trans hZ0 (isOfB hB)
  have hown : (s.setVm vm0).vm.findClass own = some m.cls := by show vm0.findClass own = _; rw [(isOfB hB).alike.findClass]; exact hown0
  obtain ⟨t, o, st, h⟩ := hr vm0 n1 ad T locs X hB hn1 hA hN hG hF
  exact ⟨t, o, XS.iload X.here hx rfl (Jvm.hb hby hd) (get_map hl) st, h⟩
theorem Walk.iloadN (W : Walk fl tab sig l Z a0 n0 ol own nm bytes maxL ret R Q J) {i : Fin 4} {v : Int32} (hd : decode bytes pc = .ok (.iload_n i, 1)) (hl : Ls[i.val]? = some (.val (.int v))) (hr : J pc' Ls (.int v :: S) G k sl) (hp : pc + 1 = pc' := by rfl) : J pc Ls (S) G k sl := by
  obtain ⟨ad0, N0, p, e, s, m, args, below, meth, c, rfl, hx, hby, hml, hret, hlk, hnm, hZ0, hown0, hw, hS⟩ := W
  subst hp
  intro vm0 n1 ad T locs X hB hn1 hA hN hG hF
  have hZ : Z.Warmed39 (s.setVm vm0).vm := State.Warmed39.trans hZ0 (isOfB hB)
  have hown : (s.setVm vm0).vm.findClass own = some m.cls := by show vm0.findClass own = _; rw [(isOfB hB).alike.findClass]; exact hown0
  obtain ⟨t, o, st, h⟩ := hr vm0 n1 ad T locs X hB hn1 hA hN hG hF
  exact ⟨t, o, XS.iloadN X.here hx rfl (Jvm.hb hby hd) (get_map hl) st, h⟩
theorem Walk.lload (W : Walk fl tab sig l Z a0 n0 ol own nm bytes maxL ret R Q J) {i : Nat} {v : Int64} (hd : decode bytes pc = .ok (.lload i, 2)) (hl : Ls[i]? = some (.val (.long v))) (hr : J pc' Ls (.long v :: S) G k sl) (hp : pc + 2 = pc' := by rfl) : J pc Ls (S) G k sl := by
  obtain ⟨ad0, N0, p, e, s, m, args, below, meth, c, rfl, hx, hby, hml, hret, hlk, hnm, hZ0, hown0, hw, hS⟩ := W
  subst hp
  intro vm0 n1 ad T locs X hB hn1 hA hN hG hF
  have hZ : Z.Warmed39 (s.setVm vm0).vm := State.Warmed39.trans hZ0 (isOfB hB)
  have hown : (s.setVm vm0).vm.findClass own = some m.cls := by show vm0.findClass own = _; rw [(isOfB hB).alike.findClass]; exact hown0
  obtain ⟨t, o, st, h⟩ := hr vm0 n1 ad T locs X hB hn1 hA hN hG hF
  exact ⟨t, o, XT.lload X.here hx rfl (Jvm.hb hby hd) (get_map hl) st, h⟩
theorem Walk.lloadN (W : Walk fl tab sig l Z a0 n0 ol own nm bytes maxL ret R Q J) {i : Fin 4} {v : Int64} (hd : decode bytes pc = .ok (.lload_n i, 1)) (hl : Ls[i.val]? = some (.val (.long v))) (hr : J pc' Ls (.long v :: S) G k sl) (hp : pc + 1 = pc' := by rfl) : J pc Ls (S) G k sl := by
  obtain ⟨ad0, N0, p, e, s, m, args, below, meth, c, rfl, hx, hby, hml, hret, hlk, hnm, hZ0, hown0, hw, hS⟩ := W
  subst hp
  intro vm0 n1 ad T locs X hB hn1 hA hN hG hF
  have hZ : Z.Warmed39 (s.setVm vm0).vm := State.Warmed39.trans hZ0 (isOfB hB)
  have hown : (s.setVm vm0).vm.findClass own = some m.cls := by show vm0.findClass own = _; rw [(isOfB hB).alike.findClass]; exact hown0
  obtain ⟨t, o, st, h⟩ := hr vm0 n1 ad T locs X hB hn1 hA hN hG hF
  exact ⟨t, o, XT.lloadN X.here hx rfl (Jvm.hb hby hd) (get_map hl) st, h⟩
theorem Walk.aload (W : Walk fl tab sig l Z a0 n0 ol own nm bytes maxL ret R Q J) {i : Nat} {v : Value} (hd : decode bytes pc = .ok (.aload i, 2)) (hl : Ls[i]? = some (.val v)) (hv : v.isRef = true) (hr : J pc' Ls (v :: S) G k sl) (hp : pc + 2 = pc' := by rfl) : J pc Ls (S) G k sl := by
  obtain ⟨ad0, N0, p, e, s, m, args, below, meth, c, rfl, hx, hby, hml, hret, hlk, hnm, hZ0, hown0, hw, hS⟩ := W
  subst hp
  intro vm0 n1 ad T locs X hB hn1 hA hN hG hF
  have hZ : Z.Warmed39 (s.setVm vm0).vm := State.Warmed39.trans hZ0 (isOfB hB)
  have hown : (s.setVm vm0).vm.findClass own = some m.cls := by show vm0.findClass own = _; rw [(isOfB hB).alike.findClass]; exact hown0
  obtain ⟨t, o, st, h⟩ := hr vm0 n1 ad T locs X hB hn1 hA hN hG hF
  exact ⟨t, o, XS.aload X.here hx rfl (Jvm.hb hby hd) (get_map hl) (by rw [rv_isRef]; exact hv) st, h⟩
theorem Walk.aloadN (W : Walk fl tab sig l Z a0 n0 ol own nm bytes maxL ret R Q J) {i : Fin 4} {v : Value} (hd : decode bytes pc = .ok (.aload_n i, 1)) (hl : Ls[i.val]? = some (.val v)) (hv : v.isRef = true) (hr : J pc' Ls (v :: S) G k sl) (hp : pc + 1 = pc' := by rfl) : J pc Ls (S) G k sl := by
  obtain ⟨ad0, N0, p, e, s, m, args, below, meth, c, rfl, hx, hby, hml, hret, hlk, hnm, hZ0, hown0, hw, hS⟩ := W
  subst hp
  intro vm0 n1 ad T locs X hB hn1 hA hN hG hF
  have hZ : Z.Warmed39 (s.setVm vm0).vm := State.Warmed39.trans hZ0 (isOfB hB)
  have hown : (s.setVm vm0).vm.findClass own = some m.cls := by show vm0.findClass own = _; rw [(isOfB hB).alike.findClass]; exact hown0
  obtain ⟨t, o, st, h⟩ := hr vm0 n1 ad T locs X hB hn1 hA hN hG hF
  exact ⟨t, o, XS.aloadN X.here hx rfl (Jvm.hb hby hd) (get_map hl) (by rw [rv_isRef]; exact hv) st, h⟩
theorem Walk.iconst (W : Walk fl tab sig l Z a0 n0 ol own nm bytes maxL ret R Q J) {i : Int} (v : Int32) (hd : decode bytes pc = .ok (.iconst i, 1)) (hv : Int32.ofInt i = v) (hr : J pc' Ls (.int v :: S) G k sl) (hp : pc + 1 = pc' := by rfl) : J pc Ls (S) G k sl := by
  obtain ⟨ad0, N0, p, e, s, m, args, below, meth, c, rfl, hx, hby, hml, hret, hlk, hnm, hZ0, hown0, hw, hS⟩ := W
  subst hp
  intro vm0 n1 ad T locs X hB hn1 hA hN hG hF
  have hZ : Z.Warmed39 (s.setVm vm0).vm := State.Warmed39.trans hZ0 (isOfB hB)
  have hown : (s.setVm vm0).vm.findClass own = some m.cls := by show vm0.findClass own = _; rw [(isOfB hB).alike.findClass]; exact hown0
  obtain ⟨t, o, st, h⟩ := hr vm0 n1 ad T locs X hB hn1 hA hN hG hF
  exact ⟨t, o, XT.iconstV X.here hx rfl v (Jvm.hb hby hd) hv st, h⟩
theorem Walk.bipush (W : Walk fl tab sig l Z a0 n0 ol own nm bytes maxL ret R Q J) {i : Int} (v : Int32) (hd : decode bytes pc = .ok (.bipush i, 2)) (hv : (Int8.ofInt i).toInt32 = v) (hr : J pc' Ls (.int v :: S) G k sl) (hp : pc + 2 = pc' := by rfl) : J pc Ls (S) G k sl := by
  obtain ⟨ad0, N0, p, e, s, m, args, below, meth, c, rfl, hx, hby, hml, hret, hlk, hnm, hZ0, hown0, hw, hS⟩ := W
  subst hp
  intro vm0 n1 ad T locs X hB hn1 hA hN hG hF
  have hZ : Z.Warmed39 (s.setVm vm0).vm := State.Warmed39.trans hZ0 (isOfB hB)
  have hown : (s.setVm vm0).vm.findClass own = some m.cls := by show vm0.findClass own = _; rw [(isOfB hB).alike.findClass]; exact hown0
  obtain ⟨t, o, st, h⟩ := hr vm0 n1 ad T locs X hB hn1 hA hN hG hF
  exact ⟨t, o, XT.bipushV X.here hx rfl v (Jvm.hb hby hd) hv st, h⟩
theorem Walk.sipush (W : Walk fl tab sig l Z a0 n0 ol own nm bytes maxL ret R Q J) {i : Int} (v : Int32) (hd : decode bytes pc = .ok (.sipush i, 3)) (hv : (Int16.ofInt i).toInt32 = v) (hr : J pc' Ls (.int v :: S) G k sl) (hp : pc + 3 = pc' := by rfl) : J pc Ls (S) G k sl := by
  obtain ⟨ad0, N0, p, e, s, m, args, below, meth, c, rfl, hx, hby, hml, hret, hlk, hnm, hZ0, hown0, hw, hS⟩ := W
  subst hp
  intro vm0 n1 ad T locs X hB hn1 hA hN hG hF
  have hZ : Z.Warmed39 (s.setVm vm0).vm := State.Warmed39.trans hZ0 (isOfB hB)
  have hown : (s.setVm vm0).vm.findClass own = some m.cls := by show vm0.findClass own = _; rw [(isOfB hB).alike.findClass]; exact hown0
  obtain ⟨t, o, st, h⟩ := hr vm0 n1 ad T locs X hB hn1 hA hN hG hF
  exact ⟨t, o, XT.sipushV X.here hx rfl v (Jvm.hb hby hd) hv st, h⟩
theorem Walk.lconst (W : Walk fl tab sig l Z a0 n0 ol own nm bytes maxL ret R Q J) {i : Fin 2} (v : Int64) (hd : decode bytes pc = .ok (.lconst i, 1)) (hv : Int64.ofNat i = v) (hr : J pc' Ls (.long v :: S) G k sl) (hp : pc + 1 = pc' := by rfl) : J pc Ls (S) G k sl := by
  obtain ⟨ad0, N0, p, e, s, m, args, below, meth, c, rfl, hx, hby, hml, hret, hlk, hnm, hZ0, hown0, hw, hS⟩ := W
  subst hp
  intro vm0 n1 ad T locs X hB hn1 hA hN hG hF
  have hZ : Z.Warmed39 (s.setVm vm0).vm := State.Warmed39.trans hZ0 (isOfB hB)
  have hown : (s.setVm vm0).vm.findClass own = some m.cls := by show vm0.findClass own = _; rw [(isOfB hB).alike.findClass]; exact hown0
  obtain ⟨t, o, st, h⟩ := hr vm0 n1 ad T locs X hB hn1 hA hN hG hF
  exact ⟨t, o, XT.lconstV X.here hx rfl v (Jvm.hb hby hd) hv st, h⟩
theorem Walk.aconstNull (W : Walk fl tab sig l Z a0 n0 ol own nm bytes maxL ret R Q J) (hd : decode bytes pc = .ok (.aconst_null, 1)) (hr : J pc' Ls (.null :: S) G k sl) (hp : pc + 1 = pc' := by rfl) : J pc Ls (S) G k sl := by
  obtain ⟨ad0, N0, p, e, s, m, args, below, meth, c, rfl, hx, hby, hml, hret, hlk, hnm, hZ0, hown0, hw, hS⟩ := W
  subst hp
  intro vm0 n1 ad T locs X hB hn1 hA hN hG hF
  have hZ : Z.Warmed39 (s.setVm vm0).vm := State.Warmed39.trans hZ0 (isOfB hB)
  have hown : (s.setVm vm0).vm.findClass own = some m.cls := by show vm0.findClass own = _; rw [(isOfB hB).alike.findClass]; exact hown0
  obtain ⟨t, o, st, h⟩ := hr vm0 n1 ad T locs X hB hn1 hA hN hG hF
  exact ⟨t, o, XS.aconstNull X.here hx rfl (Jvm.hb hby hd) st, h⟩
theorem Walk.iadd (W : Walk fl tab sig l Z a0 n0 ol own nm bytes maxL ret R Q J) {x y : Int32} (hd : decode bytes pc = .ok (.iadd, 1)) (hr : J pc' Ls (.int (x + y) :: S) G k sl) (hp : pc + 1 = pc' := by rfl) : J pc Ls (.int y :: .int x :: S) G k sl := by
  obtain ⟨ad0, N0, p, e, s, m, args, below, meth, c, rfl, hx, hby, hml, hret, hlk, hnm, hZ0, hown0, hw, hS⟩ := W
  subst hp
  intro vm0 n1 ad T locs X hB hn1 hA hN hG hF
  have hZ : Z.Warmed39 (s.setVm vm0).vm := State.Warmed39.trans hZ0 (isOfB hB)
  have hown : (s.setVm vm0).vm.findClass own = some m.cls := by show vm0.findClass own = _; rw [(isOfB hB).alike.findClass]; exact hown0
  obtain ⟨t, o, st, h⟩ := hr vm0 n1 ad T locs X hB hn1 hA hN hG hF
  exact ⟨t, o, XS.iadd X.here hx rfl (Jvm.hb hby hd) rfl st, h⟩
theorem Walk.isub (W : Walk fl tab sig l Z a0 n0 ol own nm bytes maxL ret R Q J) {x y : Int32} (hd : decode bytes pc = .ok (.isub, 1)) (hr : J pc' Ls (.int (x - y) :: S) G k sl) (hp : pc + 1 = pc' := by rfl) : J pc Ls (.int y :: .int x :: S) G k sl := by
  obtain ⟨ad0, N0, p, e, s, m, args, below, meth, c, rfl, hx, hby, hml, hret, hlk, hnm, hZ0, hown0, hw, hS⟩ := W
  subst hp
  intro vm0 n1 ad T locs X hB hn1 hA hN hG hF
  have hZ : Z.Warmed39 (s.setVm vm0).vm := State.Warmed39.trans hZ0 (isOfB hB)
  have hown : (s.setVm vm0).vm.findClass own = some m.cls := by show vm0.findClass own = _; rw [(isOfB hB).alike.findClass]; exact hown0
  obtain ⟨t, o, st, h⟩ := hr vm0 n1 ad T locs X hB hn1 hA hN hG hF
  exact ⟨t, o, XS.isub X.here hx rfl (Jvm.hb hby hd) rfl st, h⟩
theorem Walk.imul (W : Walk fl tab sig l Z a0 n0 ol own nm bytes maxL ret R Q J) {x y : Int32} (hd : decode bytes pc = .ok (.imul, 1)) (hr : J pc' Ls (.int (x * y) :: S) G k sl) (hp : pc + 1 = pc' := by rfl) : J pc Ls (.int y :: .int x :: S) G k sl := by
  obtain ⟨ad0, N0, p, e, s, m, args, below, meth, c, rfl, hx, hby, hml, hret, hlk, hnm, hZ0, hown0, hw, hS⟩ := W
  subst hp
  intro vm0 n1 ad T locs X hB hn1 hA hN hG hF
  have hZ : Z.Warmed39 (s.setVm vm0).vm := State.Warmed39.trans hZ0 (isOfB hB)
  have hown : (s.setVm vm0).vm.findClass own = some m.cls := by show vm0.findClass own = _; rw [(isOfB hB).alike.findClass]; exact hown0
  obtain ⟨t, o, st, h⟩ := hr vm0 n1 ad T locs X hB hn1 hA hN hG hF
  exact ⟨t, o, XS.imul X.here hx rfl (Jvm.hb hby hd) rfl st, h⟩
theorem Walk.iand (W : Walk fl tab sig l Z a0 n0 ol own nm bytes maxL ret R Q J) {x y : Int32} (hd : decode bytes pc = .ok (.iand, 1)) (hr : J pc' Ls (.int (x &&& y) :: S) G k sl) (hp : pc + 1 = pc' := by rfl) : J pc Ls (.int y :: .int x :: S) G k sl := by
  obtain ⟨ad0, N0, p, e, s, m, args, below, meth, c, rfl, hx, hby, hml, hret, hlk, hnm, hZ0, hown0, hw, hS⟩ := W
  subst hp
  intro vm0 n1 ad T locs X hB hn1 hA hN hG hF
  have hZ : Z.Warmed39 (s.setVm vm0).vm := State.Warmed39.trans hZ0 (isOfB hB)
  have hown : (s.setVm vm0).vm.findClass own = some m.cls := by show vm0.findClass own = _; rw [(isOfB hB).alike.findClass]; exact hown0
  obtain ⟨t, o, st, h⟩ := hr vm0 n1 ad T locs X hB hn1 hA hN hG hF
  exact ⟨t, o, XS.iand X.here hx rfl (Jvm.hb hby hd) rfl st, h⟩
theorem Walk.ior (W : Walk fl tab sig l Z a0 n0 ol own nm bytes maxL ret R Q J) {x y : Int32} (hd : decode bytes pc = .ok (.ior, 1)) (hr : J pc' Ls (.int (x ||| y) :: S) G k sl) (hp : pc + 1 = pc' := by rfl) : J pc Ls (.int y :: .int x :: S) G k sl := by
  obtain ⟨ad0, N0, p, e, s, m, args, below, meth, c, rfl, hx, hby, hml, hret, hlk, hnm, hZ0, hown0, hw, hS⟩ := W
  subst hp
  intro vm0 n1 ad T locs X hB hn1 hA hN hG hF
  have hZ : Z.Warmed39 (s.setVm vm0).vm := State.Warmed39.trans hZ0 (isOfB hB)
  have hown : (s.setVm vm0).vm.findClass own = some m.cls := by show vm0.findClass own = _; rw [(isOfB hB).alike.findClass]; exact hown0
  obtain ⟨t, o, st, h⟩ := hr vm0 n1 ad T locs X hB hn1 hA hN hG hF
  exact ⟨t, o, XT.ior X.here hx rfl (Jvm.hb hby hd) rfl st, h⟩
theorem Walk.ixor (W : Walk fl tab sig l Z a0 n0 ol own nm bytes maxL ret R Q J) {x y : Int32} (hd : decode bytes pc = .ok (.ixor, 1)) (hr : J pc' Ls (.int (x ^^^ y) :: S) G k sl) (hp : pc + 1 = pc' := by rfl) : J pc Ls (.int y :: .int x :: S) G k sl := by
  obtain ⟨ad0, N0, p, e, s, m, args, below, meth, c, rfl, hx, hby, hml, hret, hlk, hnm, hZ0, hown0, hw, hS⟩ := W
  subst hp
  intro vm0 n1 ad T locs X hB hn1 hA hN hG hF
  have hZ : Z.Warmed39 (s.setVm vm0).vm := State.Warmed39.trans hZ0 (isOfB hB)
  have hown : (s.setVm vm0).vm.findClass own = some m.cls := by show vm0.findClass own = _; rw [(isOfB hB).alike.findClass]; exact hown0
  obtain ⟨t, o, st, h⟩ := hr vm0 n1 ad T locs X hB hn1 hA hN hG hF
  exact ⟨t, o, XT.ixor X.here hx rfl (Jvm.hb hby hd) rfl st, h⟩
theorem Walk.ishl (W : Walk fl tab sig l Z a0 n0 ol own nm bytes maxL ret R Q J) {x y : Int32} (hd : decode bytes pc = .ok (.ishl, 1)) (hr : J pc' Ls (.int (x <<< (y &&& 31)) :: S) G k sl) (hp : pc + 1 = pc' := by rfl) : J pc Ls (.int y :: .int x :: S) G k sl := by
  obtain ⟨ad0, N0, p, e, s, m, args, below, meth, c, rfl, hx, hby, hml, hret, hlk, hnm, hZ0, hown0, hw, hS⟩ := W
  subst hp
  intro vm0 n1 ad T locs X hB hn1 hA hN hG hF
  have hZ : Z.Warmed39 (s.setVm vm0).vm := State.Warmed39.trans hZ0 (isOfB hB)
  have hown : (s.setVm vm0).vm.findClass own = some m.cls := by show vm0.findClass own = _; rw [(isOfB hB).alike.findClass]; exact hown0
  obtain ⟨t, o, st, h⟩ := hr vm0 n1 ad T locs X hB hn1 hA hN hG hF
  exact ⟨t, o, XT.ishl X.here hx rfl (Jvm.hb hby hd) rfl st, h⟩
theorem Walk.ishr (W : Walk fl tab sig l Z a0 n0 ol own nm bytes maxL ret R Q J) {x y : Int32} (hd : decode bytes pc = .ok (.ishr, 1)) (hr : J pc' Ls (.int (x >>> (y &&& 31)) :: S) G k sl) (hp : pc + 1 = pc' := by rfl) : J pc Ls (.int y :: .int x :: S) G k sl := by
  obtain ⟨ad0, N0, p, e, s, m, args, below, meth, c, rfl, hx, hby, hml, hret, hlk, hnm, hZ0, hown0, hw, hS⟩ := W
  subst hp
  intro vm0 n1 ad T locs X hB hn1 hA hN hG hF
  have hZ : Z.Warmed39 (s.setVm vm0).vm := State.Warmed39.trans hZ0 (isOfB hB)
  have hown : (s.setVm vm0).vm.findClass own = some m.cls := by show vm0.findClass own = _; rw [(isOfB hB).alike.findClass]; exact hown0
  obtain ⟨t, o, st, h⟩ := hr vm0 n1 ad T locs X hB hn1 hA hN hG hF
  exact ⟨t, o, XT.ishr X.here hx rfl (Jvm.hb hby hd) rfl st, h⟩
theorem Walk.iushr (W : Walk fl tab sig l Z a0 n0 ol own nm bytes maxL ret R Q J) {x y : Int32} (hd : decode bytes pc = .ok (.iushr, 1)) (hr : J pc' Ls (.int (XT.ushr x y) :: S) G k sl) (hp : pc + 1 = pc' := by rfl) : J pc Ls (.int y :: .int x :: S) G k sl := by
  obtain ⟨ad0, N0, p, e, s, m, args, below, meth, c, rfl, hx, hby, hml, hret, hlk, hnm, hZ0, hown0, hw, hS⟩ := W
  subst hp
  intro vm0 n1 ad T locs X hB hn1 hA hN hG hF
  have hZ : Z.Warmed39 (s.setVm vm0).vm := State.Warmed39.trans hZ0 (isOfB hB)
  have hown : (s.setVm vm0).vm.findClass own = some m.cls := by show vm0.findClass own = _; rw [(isOfB hB).alike.findClass]; exact hown0
  obtain ⟨t, o, st, h⟩ := hr vm0 n1 ad T locs X hB hn1 hA hN hG hF
  exact ⟨t, o, XT.iushr X.here hx rfl (Jvm.hb hby hd) rfl st, h⟩
theorem Walk.idiv (W : Walk fl tab sig l Z a0 n0 ol own nm bytes maxL ret R Q J) {x y : Int32} (hd : decode bytes pc = .ok (.idiv, 1)) (hy : y ≠ 0) (hr : J pc' Ls (.int (x / y) :: S) G k sl) (hp : pc + 1 = pc' := by rfl) : J pc Ls (.int y :: .int x :: S) G k sl := by
  obtain ⟨ad0, N0, p, e, s, m, args, below, meth, c, rfl, hx, hby, hml, hret, hlk, hnm, hZ0, hown0, hw, hS⟩ := W
  subst hp
  intro vm0 n1 ad T locs X hB hn1 hA hN hG hF
  have hZ : Z.Warmed39 (s.setVm vm0).vm := State.Warmed39.trans hZ0 (isOfB hB)
  have hown : (s.setVm vm0).vm.findClass own = some m.cls := by show vm0.findClass own = _; rw [(isOfB hB).alike.findClass]; exact hown0
  obtain ⟨t, o, st, h⟩ := hr vm0 n1 ad T locs X hB hn1 hA hN hG hF
  exact ⟨t, o, XS.idiv X.here hx rfl (Jvm.hb hby hd) rfl hy st, h⟩
theorem Walk.irem (W : Walk fl tab sig l Z a0 n0 ol own nm bytes maxL ret R Q J) {x y : Int32} (hd : decode bytes pc = .ok (.irem, 1)) (hy : y ≠ 0) (hr : J pc' Ls (.int (x % y) :: S) G k sl) (hp : pc + 1 = pc' := by rfl) : J pc Ls (.int y :: .int x :: S) G k sl := by
  obtain ⟨ad0, N0, p, e, s, m, args, below, meth, c, rfl, hx, hby, hml, hret, hlk, hnm, hZ0, hown0, hw, hS⟩ := W
  subst hp
  intro vm0 n1 ad T locs X hB hn1 hA hN hG hF
  have hZ : Z.Warmed39 (s.setVm vm0).vm := State.Warmed39.trans hZ0 (isOfB hB)
  have hown : (s.setVm vm0).vm.findClass own = some m.cls := by show vm0.findClass own = _; rw [(isOfB hB).alike.findClass]; exact hown0
  obtain ⟨t, o, st, h⟩ := hr vm0 n1 ad T locs X hB hn1 hA hN hG hF
  exact ⟨t, o, iremM X hx rfl (Jvm.hb hby hd) rfl hy st, h⟩
theorem Walk.ineg (W : Walk fl tab sig l Z a0 n0 ol own nm bytes maxL ret R Q J) {x : Int32} (hd : decode bytes pc = .ok (.ineg, 1)) (hr : J pc' Ls (.int (-x) :: S) G k sl) (hp : pc + 1 = pc' := by rfl) : J pc Ls (.int x :: S) G k sl := by
  obtain ⟨ad0, N0, p, e, s, m, args, below, meth, c, rfl, hx, hby, hml, hret, hlk, hnm, hZ0, hown0, hw, hS⟩ := W
  subst hp
  intro vm0 n1 ad T locs X hB hn1 hA hN hG hF
  have hZ : Z.Warmed39 (s.setVm vm0).vm := State.Warmed39.trans hZ0 (isOfB hB)
  have hown : (s.setVm vm0).vm.findClass own = some m.cls := by show vm0.findClass own = _; rw [(isOfB hB).alike.findClass]; exact hown0
  obtain ⟨t, o, st, h⟩ := hr vm0 n1 ad T locs X hB hn1 hA hN hG hF
  exact ⟨t, o, XS.ineg X.here hx rfl (Jvm.hb hby hd) rfl st, h⟩
theorem Walk.ladd (W : Walk fl tab sig l Z a0 n0 ol own nm bytes maxL ret R Q J) {x y : Int64} (hd : decode bytes pc = .ok (.ladd, 1)) (hr : J pc' Ls (.long (x + y) :: S) G k sl) (hp : pc + 1 = pc' := by rfl) : J pc Ls (.long y :: .long x :: S) G k sl := by
  obtain ⟨ad0, N0, p, e, s, m, args, below, meth, c, rfl, hx, hby, hml, hret, hlk, hnm, hZ0, hown0, hw, hS⟩ := W
  subst hp
  intro vm0 n1 ad T locs X hB hn1 hA hN hG hF
  have hZ : Z.Warmed39 (s.setVm vm0).vm := State.Warmed39.trans hZ0 (isOfB hB)
  have hown : (s.setVm vm0).vm.findClass own = some m.cls := by show vm0.findClass own = _; rw [(isOfB hB).alike.findClass]; exact hown0
  obtain ⟨t, o, st, h⟩ := hr vm0 n1 ad T locs X hB hn1 hA hN hG hF
  exact ⟨t, o, XT.ladd X.here hx rfl (Jvm.hb hby hd) rfl st, h⟩
theorem Walk.lsub (W : Walk fl tab sig l Z a0 n0 ol own nm bytes maxL ret R Q J) {x y : Int64} (hd : decode bytes pc = .ok (.lsub, 1)) (hr : J pc' Ls (.long (x - y) :: S) G k sl) (hp : pc + 1 = pc' := by rfl) : J pc Ls (.long y :: .long x :: S) G k sl := by
  obtain ⟨ad0, N0, p, e, s, m, args, below, meth, c, rfl, hx, hby, hml, hret, hlk, hnm, hZ0, hown0, hw, hS⟩ := W
  subst hp
  intro vm0 n1 ad T locs X hB hn1 hA hN hG hF
  have hZ : Z.Warmed39 (s.setVm vm0).vm := State.Warmed39.trans hZ0 (isOfB hB)
  have hown : (s.setVm vm0).vm.findClass own = some m.cls := by show vm0.findClass own = _; rw [(isOfB hB).alike.findClass]; exact hown0
  obtain ⟨t, o, st, h⟩ := hr vm0 n1 ad T locs X hB hn1 hA hN hG hF
  exact ⟨t, o, XT.lsub X.here hx rfl (Jvm.hb hby hd) rfl st, h⟩
theorem Walk.lmul (W : Walk fl tab sig l Z a0 n0 ol own nm bytes maxL ret R Q J) {x y : Int64} (hd : decode bytes pc = .ok (.lmul, 1)) (hr : J pc' Ls (.long (x * y) :: S) G k sl) (hp : pc + 1 = pc' := by rfl) : J pc Ls (.long y :: .long x :: S) G k sl := by
  obtain ⟨ad0, N0, p, e, s, m, args, below, meth, c, rfl, hx, hby, hml, hret, hlk, hnm, hZ0, hown0, hw, hS⟩ := W
  subst hp
  intro vm0 n1 ad T locs X hB hn1 hA hN hG hF
  have hZ : Z.Warmed39 (s.setVm vm0).vm := State.Warmed39.trans hZ0 (isOfB hB)
  have hown : (s.setVm vm0).vm.findClass own = some m.cls := by show vm0.findClass own = _; rw [(isOfB hB).alike.findClass]; exact hown0
  obtain ⟨t, o, st, h⟩ := hr vm0 n1 ad T locs X hB hn1 hA hN hG hF
  exact ⟨t, o, XT.lmul X.here hx rfl (Jvm.hb hby hd) rfl st, h⟩
theorem Walk.land (W : Walk fl tab sig l Z a0 n0 ol own nm bytes maxL ret R Q J) {x y : Int64} (hd : decode bytes pc = .ok (.land, 1)) (hr : J pc' Ls (.long (x &&& y) :: S) G k sl) (hp : pc + 1 = pc' := by rfl) : J pc Ls (.long y :: .long x :: S) G k sl := by
  obtain ⟨ad0, N0, p, e, s, m, args, below, meth, c, rfl, hx, hby, hml, hret, hlk, hnm, hZ0, hown0, hw, hS⟩ := W
  subst hp
  intro vm0 n1 ad T locs X hB hn1 hA hN hG hF
  have hZ : Z.Warmed39 (s.setVm vm0).vm := State.Warmed39.trans hZ0 (isOfB hB)
  have hown : (s.setVm vm0).vm.findClass own = some m.cls := by show vm0.findClass own = _; rw [(isOfB hB).alike.findClass]; exact hown0
  obtain ⟨t, o, st, h⟩ := hr vm0 n1 ad T locs X hB hn1 hA hN hG hF
  exact ⟨t, o, XT.land X.here hx rfl (Jvm.hb hby hd) rfl st, h⟩
theorem Walk.lor (W : Walk fl tab sig l Z a0 n0 ol own nm bytes maxL ret R Q J) {x y : Int64} (hd : decode bytes pc = .ok (.lor, 1)) (hr : J pc' Ls (.long (x ||| y) :: S) G k sl) (hp : pc + 1 = pc' := by rfl) : J pc Ls (.long y :: .long x :: S) G k sl := by
  obtain ⟨ad0, N0, p, e, s, m, args, below, meth, c, rfl, hx, hby, hml, hret, hlk, hnm, hZ0, hown0, hw, hS⟩ := W
  subst hp
  intro vm0 n1 ad T locs X hB hn1 hA hN hG hF
  have hZ : Z.Warmed39 (s.setVm vm0).vm := State.Warmed39.trans hZ0 (isOfB hB)
  have hown : (s.setVm vm0).vm.findClass own = some m.cls := by show vm0.findClass own = _; rw [(isOfB hB).alike.findClass]; exact hown0
  obtain ⟨t, o, st, h⟩ := hr vm0 n1 ad T locs X hB hn1 hA hN hG hF
  exact ⟨t, o, XT.lor X.here hx rfl (Jvm.hb hby hd) rfl st, h⟩
theorem Walk.lxor (W : Walk fl tab sig l Z a0 n0 ol own nm bytes maxL ret R Q J) {x y : Int64} (hd : decode bytes pc = .ok (.lxor, 1)) (hr : J pc' Ls (.long (x ^^^ y) :: S) G k sl) (hp : pc + 1 = pc' := by rfl) : J pc Ls (.long y :: .long x :: S) G k sl := by
  obtain ⟨ad0, N0, p, e, s, m, args, below, meth, c, rfl, hx, hby, hml, hret, hlk, hnm, hZ0, hown0, hw, hS⟩ := W
  subst hp
  intro vm0 n1 ad T locs X hB hn1 hA hN hG hF
  have hZ : Z.Warmed39 (s.setVm vm0).vm := State.Warmed39.trans hZ0 (isOfB hB)
  have hown : (s.setVm vm0).vm.findClass own = some m.cls := by show vm0.findClass own = _; rw [(isOfB hB).alike.findClass]; exact hown0
  obtain ⟨t, o, st, h⟩ := hr vm0 n1 ad T locs X hB hn1 hA hN hG hF
  exact ⟨t, o, XT.lxor X.here hx rfl (Jvm.hb hby hd) rfl st, h⟩
theorem Walk.lshl (W : Walk fl tab sig l Z a0 n0 ol own nm bytes maxL ret R Q J) {x : Int64} {y : Int32} (hd : decode bytes pc = .ok (.lshl, 1)) (hr : J pc' Ls (.long (x <<< (y.toInt64 &&& 63)) :: S) G k sl) (hp : pc + 1 = pc' := by rfl) : J pc Ls (.int y :: .long x :: S) G k sl := by
  obtain ⟨ad0, N0, p, e, s, m, args, below, meth, c, rfl, hx, hby, hml, hret, hlk, hnm, hZ0, hown0, hw, hS⟩ := W
  subst hp
  intro vm0 n1 ad T locs X hB hn1 hA hN hG hF
  have hZ : Z.Warmed39 (s.setVm vm0).vm := State.Warmed39.trans hZ0 (isOfB hB)
  have hown : (s.setVm vm0).vm.findClass own = some m.cls := by show vm0.findClass own = _; rw [(isOfB hB).alike.findClass]; exact hown0
  obtain ⟨t, o, st, h⟩ := hr vm0 n1 ad T locs X hB hn1 hA hN hG hF
  exact ⟨t, o, XT.lshl X.here hx rfl (Jvm.hb hby hd) rfl st, h⟩
theorem Walk.lshr (W : Walk fl tab sig l Z a0 n0 ol own nm bytes maxL ret R Q J) {x : Int64} {y : Int32} (hd : decode bytes pc = .ok (.lshr, 1)) (hr : J pc' Ls (.long (x >>> (y.toInt64 &&& 63)) :: S) G k sl) (hp : pc + 1 = pc' := by rfl) : J pc Ls (.int y :: .long x :: S) G k sl := by
  obtain ⟨ad0, N0, p, e, s, m, args, below, meth, c, rfl, hx, hby, hml, hret, hlk, hnm, hZ0, hown0, hw, hS⟩ := W
  subst hp
  intro vm0 n1 ad T locs X hB hn1 hA hN hG hF
  have hZ : Z.Warmed39 (s.setVm vm0).vm := State.Warmed39.trans hZ0 (isOfB hB)
  have hown : (s.setVm vm0).vm.findClass own = some m.cls := by show vm0.findClass own = _; rw [(isOfB hB).alike.findClass]; exact hown0
  obtain ⟨t, o, st, h⟩ := hr vm0 n1 ad T locs X hB hn1 hA hN hG hF
  exact ⟨t, o, XT.lshr X.here hx rfl (Jvm.hb hby hd) rfl st, h⟩
theorem Walk.lushr (W : Walk fl tab sig l Z a0 n0 ol own nm bytes maxL ret R Q J) {x : Int64} {y : Int32} (hd : decode bytes pc = .ok (.lushr, 1)) (hr : J pc' Ls (.long (XT.ushrL x y) :: S) G k sl) (hp : pc + 1 = pc' := by rfl) : J pc Ls (.int y :: .long x :: S) G k sl := by
  obtain ⟨ad0, N0, p, e, s, m, args, below, meth, c, rfl, hx, hby, hml, hret, hlk, hnm, hZ0, hown0, hw, hS⟩ := W
  subst hp
  intro vm0 n1 ad T locs X hB hn1 hA hN hG hF
  have hZ : Z.Warmed39 (s.setVm vm0).vm := State.Warmed39.trans hZ0 (isOfB hB)
  have hown : (s.setVm vm0).vm.findClass own = some m.cls := by show vm0.findClass own = _; rw [(isOfB hB).alike.findClass]; exact hown0
  obtain ⟨t, o, st, h⟩ := hr vm0 n1 ad T locs X hB hn1 hA hN hG hF
  exact ⟨t, o, XT.lushr X.here hx rfl (Jvm.hb hby hd) rfl st, h⟩
theorem Walk.ldiv (W : Walk fl tab sig l Z a0 n0 ol own nm bytes maxL ret R Q J) {x y : Int64} (hd : decode bytes pc = .ok (.ldiv, 1)) (hy : y ≠ 0) (hr : J pc' Ls (.long (x / y) :: S) G k sl) (hp : pc + 1 = pc' := by rfl) : J pc Ls (.long y :: .long x :: S) G k sl := by
  obtain ⟨ad0, N0, p, e, s, m, args, below, meth, c, rfl, hx, hby, hml, hret, hlk, hnm, hZ0, hown0, hw, hS⟩ := W
  subst hp
  intro vm0 n1 ad T locs X hB hn1 hA hN hG hF
  have hZ : Z.Warmed39 (s.setVm vm0).vm := State.Warmed39.trans hZ0 (isOfB hB)
  have hown : (s.setVm vm0).vm.findClass own = some m.cls := by show vm0.findClass own = _; rw [(isOfB hB).alike.findClass]; exact hown0
  obtain ⟨t, o, st, h⟩ := hr vm0 n1 ad T locs X hB hn1 hA hN hG hF
  exact ⟨t, o, XT.ldiv X.here hx rfl (Jvm.hb hby hd) rfl hy st, h⟩
theorem Walk.lrem (W : Walk fl tab sig l Z a0 n0 ol own nm bytes maxL ret R Q J) {x y : Int64} (hd : decode bytes pc = .ok (.lrem, 1)) (hy : y ≠ 0) (hr : J pc' Ls (.long (x - (x / y) * y) :: S) G k sl) (hp : pc + 1 = pc' := by rfl) : J pc Ls (.long y :: .long x :: S) G k sl := by
  obtain ⟨ad0, N0, p, e, s, m, args, below, meth, c, rfl, hx, hby, hml, hret, hlk, hnm, hZ0, hown0, hw, hS⟩ := W
  subst hp
  intro vm0 n1 ad T locs X hB hn1 hA hN hG hF
  have hZ : Z.Warmed39 (s.setVm vm0).vm := State.Warmed39.trans hZ0 (isOfB hB)
  have hown : (s.setVm vm0).vm.findClass own = some m.cls := by show vm0.findClass own = _; rw [(isOfB hB).alike.findClass]; exact hown0
  obtain ⟨t, o, st, h⟩ := hr vm0 n1 ad T locs X hB hn1 hA hN hG hF
  exact ⟨t, o, XT.lrem X.here hx rfl (Jvm.hb hby hd) rfl hy st, h⟩
theorem Walk.i2l (W : Walk fl tab sig l Z a0 n0 ol own nm bytes maxL ret R Q J) {x : Int32} (hd : decode bytes pc = .ok (.i2l, 1)) (hr : J pc' Ls (.long x.toInt64 :: S) G k sl) (hp : pc + 1 = pc' := by rfl) : J pc Ls (.int x :: S) G k sl := by
  obtain ⟨ad0, N0, p, e, s, m, args, below, meth, c, rfl, hx, hby, hml, hret, hlk, hnm, hZ0, hown0, hw, hS⟩ := W
  subst hp
  intro vm0 n1 ad T locs X hB hn1 hA hN hG hF
  have hZ : Z.Warmed39 (s.setVm vm0).vm := State.Warmed39.trans hZ0 (isOfB hB)
  have hown : (s.setVm vm0).vm.findClass own = some m.cls := by show vm0.findClass own = _; rw [(isOfB hB).alike.findClass]; exact hown0
  obtain ⟨t, o, st, h⟩ := hr vm0 n1 ad T locs X hB hn1 hA hN hG hF
  exact ⟨t, o, XT.i2l X.here hx rfl (Jvm.hb hby hd) rfl st, h⟩
theorem Walk.l2i (W : Walk fl tab sig l Z a0 n0 ol own nm bytes maxL ret R Q J) {x : Int64} (hd : decode bytes pc = .ok (.l2i, 1)) (hr : J pc' Ls (.int x.toInt32 :: S) G k sl) (hp : pc + 1 = pc' := by rfl) : J pc Ls (.long x :: S) G k sl := by
  obtain ⟨ad0, N0, p, e, s, m, args, below, meth, c, rfl, hx, hby, hml, hret, hlk, hnm, hZ0, hown0, hw, hS⟩ := W
  subst hp
  intro vm0 n1 ad T locs X hB hn1 hA hN hG hF
  have hZ : Z.Warmed39 (s.setVm vm0).vm := State.Warmed39.trans hZ0 (isOfB hB)
  have hown : (s.setVm vm0).vm.findClass own = some m.cls := by show vm0.findClass own = _; rw [(isOfB hB).alike.findClass]; exact hown0
  obtain ⟨t, o, st, h⟩ := hr vm0 n1 ad T locs X hB hn1 hA hN hG hF
  exact ⟨t, o, XT.l2i X.here hx rfl (Jvm.hb hby hd) rfl st, h⟩
theorem Walk.i2b (W : Walk fl tab sig l Z a0 n0 ol own nm bytes maxL ret R Q J) {x : Int32} (hd : decode bytes pc = .ok (.i2b, 1)) (hr : J pc' Ls (.int x.toInt8.toInt32 :: S) G k sl) (hp : pc + 1 = pc' := by rfl) : J pc Ls (.int x :: S) G k sl := by
  obtain ⟨ad0, N0, p, e, s, m, args, below, meth, c, rfl, hx, hby, hml, hret, hlk, hnm, hZ0, hown0, hw, hS⟩ := W
  subst hp
  intro vm0 n1 ad T locs X hB hn1 hA hN hG hF
  have hZ : Z.Warmed39 (s.setVm vm0).vm := State.Warmed39.trans hZ0 (isOfB hB)
  have hown : (s.setVm vm0).vm.findClass own = some m.cls := by show vm0.findClass own = _; rw [(isOfB hB).alike.findClass]; exact hown0
  obtain ⟨t, o, st, h⟩ := hr vm0 n1 ad T locs X hB hn1 hA hN hG hF
  exact ⟨t, o, XT.i2b X.here hx rfl (Jvm.hb hby hd) rfl st, h⟩
theorem Walk.lcmp (W : Walk fl tab sig l Z a0 n0 ol own nm bytes maxL ret R Q J) {x y : Int64} (hd : decode bytes pc = .ok (.lcmp, 1)) (hr : J pc' Ls (.int (XT.cmpL x y) :: S) G k sl) (hp : pc + 1 = pc' := by rfl) : J pc Ls (.long y :: .long x :: S) G k sl := by
  obtain ⟨ad0, N0, p, e, s, m, args, below, meth, c, rfl, hx, hby, hml, hret, hlk, hnm, hZ0, hown0, hw, hS⟩ := W
  subst hp
  intro vm0 n1 ad T locs X hB hn1 hA hN hG hF
  have hZ : Z.Warmed39 (s.setVm vm0).vm := State.Warmed39.trans hZ0 (isOfB hB)
  have hown : (s.setVm vm0).vm.findClass own = some m.cls := by show vm0.findClass own = _; rw [(isOfB hB).alike.findClass]; exact hown0
  obtain ⟨t, o, st, h⟩ := hr vm0 n1 ad T locs X hB hn1 hA hN hG hF
  exact ⟨t, o, XT.lcmp X.here hx rfl (Jvm.hb hby hd) rfl st, h⟩
theorem Walk.dup (W : Walk fl tab sig l Z a0 n0 ol own nm bytes maxL ret R Q J) {x : Value} (hd : decode bytes pc = .ok (.dup, 1)) (hc : x.category = 1) (hr : J pc' Ls (x :: x :: S) G k sl) (hp : pc + 1 = pc' := by rfl) : J pc Ls (x :: S) G k sl := by
  obtain ⟨ad0, N0, p, e, s, m, args, below, meth, c, rfl, hx, hby, hml, hret, hlk, hnm, hZ0, hown0, hw, hS⟩ := W
  subst hp
  intro vm0 n1 ad T locs X hB hn1 hA hN hG hF
  have hZ : Z.Warmed39 (s.setVm vm0).vm := State.Warmed39.trans hZ0 (isOfB hB)
  have hown : (s.setVm vm0).vm.findClass own = some m.cls := by show vm0.findClass own = _; rw [(isOfB hB).alike.findClass]; exact hown0
  obtain ⟨t, o, st, h⟩ := hr vm0 n1 ad T locs X hB hn1 hA hN hG hF
  exact ⟨t, o, XS.dup X.here hx rfl (Jvm.hb hby hd) rfl (by rw [rv_cat]; exact hc) st, h⟩
theorem Walk.pop (W : Walk fl tab sig l Z a0 n0 ol own nm bytes maxL ret R Q J) {x : Value} (hd : decode bytes pc = .ok (.pop, 1)) (hc : x.category = 1) (hr : J pc' Ls (S) G k sl) (hp : pc + 1 = pc' := by rfl) : J pc Ls (x :: S) G k sl := by
  obtain ⟨ad0, N0, p, e, s, m, args, below, meth, c, rfl, hx, hby, hml, hret, hlk, hnm, hZ0, hown0, hw, hS⟩ := W
  subst hp
  intro vm0 n1 ad T locs X hB hn1 hA hN hG hF
  have hZ : Z.Warmed39 (s.setVm vm0).vm := State.Warmed39.trans hZ0 (isOfB hB)
  have hown : (s.setVm vm0).vm.findClass own = some m.cls := by show vm0.findClass own = _; rw [(isOfB hB).alike.findClass]; exact hown0
  obtain ⟨t, o, st, h⟩ := hr vm0 n1 ad T locs X hB hn1 hA hN hG hF
  exact ⟨t, o, XT.pop X.here hx rfl (Jvm.hb hby hd) rfl (by rw [rv_cat]; exact hc) st, h⟩
theorem Walk.dupX1 (W : Walk fl tab sig l Z a0 n0 ol own nm bytes maxL ret R Q J) {x y : Value} (hd : decode bytes pc = .ok (.dup_x1, 1)) (hc : x.category = 1) (hc' : y.category = 1) (hr : J pc' Ls (x :: y :: x :: S) G k sl) (hp : pc + 1 = pc' := by rfl) : J pc Ls (x :: y :: S) G k sl := by
  obtain ⟨ad0, N0, p, e, s, m, args, below, meth, c, rfl, hx, hby, hml, hret, hlk, hnm, hZ0, hown0, hw, hS⟩ := W
  subst hp
  intro vm0 n1 ad T locs X hB hn1 hA hN hG hF
  have hZ : Z.Warmed39 (s.setVm vm0).vm := State.Warmed39.trans hZ0 (isOfB hB)
  have hown : (s.setVm vm0).vm.findClass own = some m.cls := by show vm0.findClass own = _; rw [(isOfB hB).alike.findClass]; exact hown0
  obtain ⟨t, o, st, h⟩ := hr vm0 n1 ad T locs X hB hn1 hA hN hG hF
  exact ⟨t, o, XT.dupX1 X.here hx rfl (Jvm.hb hby hd) rfl (by rw [rv_cat]; exact hc) (by rw [rv_cat]; exact hc') st, h⟩
theorem Walk.dup2 (W : Walk fl tab sig l Z a0 n0 ol own nm bytes maxL ret R Q J) {x y : Value} (hd : decode bytes pc = .ok (.dup2, 1)) (hc : x.category = 1) (hc' : y.category = 1) (hr : J pc' Ls (x :: y :: x :: y :: S) G k sl) (hp : pc + 1 = pc' := by rfl) : J pc Ls (x :: y :: S) G k sl := by
  obtain ⟨ad0, N0, p, e, s, m, args, below, meth, c, rfl, hx, hby, hml, hret, hlk, hnm, hZ0, hown0, hw, hS⟩ := W
  subst hp
  intro vm0 n1 ad T locs X hB hn1 hA hN hG hF
  have hZ : Z.Warmed39 (s.setVm vm0).vm := State.Warmed39.trans hZ0 (isOfB hB)
  have hown : (s.setVm vm0).vm.findClass own = some m.cls := by show vm0.findClass own = _; rw [(isOfB hB).alike.findClass]; exact hown0
  obtain ⟨t, o, st, h⟩ := hr vm0 n1 ad T locs X hB hn1 hA hN hG hF
  exact ⟨t, o, XT.dup2 X.here hx rfl (Jvm.hb hby hd) rfl (by rw [rv_cat]; exact hc) (by rw [rv_cat]; exact hc') st, h⟩
theorem Walk.dup2L (W : Walk fl tab sig l Z a0 n0 ol own nm bytes maxL ret R Q J) {x : Int64} (hd : decode bytes pc = .ok (.dup2, 1)) (hr : J pc' Ls (.long x :: .long x :: S) G k sl) (hp : pc + 1 = pc' := by rfl) : J pc Ls (.long x :: S) G k sl := by
  obtain ⟨ad0, N0, p, e, s, m, args, below, meth, c, rfl, hx, hby, hml, hret, hlk, hnm, hZ0, hown0, hw, hS⟩ := W
  subst hp
  intro vm0 n1 ad T locs X hB hn1 hA hN hG hF
  have hZ : Z.Warmed39 (s.setVm vm0).vm := State.Warmed39.trans hZ0 (isOfB hB)
  have hown : (s.setVm vm0).vm.findClass own = some m.cls := by show vm0.findClass own = _; rw [(isOfB hB).alike.findClass]; exact hown0
  obtain ⟨t, o, st, h⟩ := hr vm0 n1 ad T locs X hB hn1 hA hN hG hF
  exact ⟨t, o, XT.dup2L X.here hx rfl (Jvm.hb hby hd) rfl st, h⟩
theorem Walk.istore (W : Walk fl tab sig l Z a0 n0 ol own nm bytes maxL ret R Q J) {i : Nat} {x : Int32} (hd : decode bytes pc = .ok (.istore i, 2)) (ho : ok1 Ls[i]? = true) (hr : J pc' (Ls.set i (.val (.int x))) (S) G k sl) (hp : pc + 2 = pc' := by rfl) : J pc Ls (.int x :: S) G k sl := by
  obtain ⟨ad0, N0, p, e, s, m, args, below, meth, c, rfl, hx, hby, hml, hret, hlk, hnm, hZ0, hown0, hw, hS⟩ := W
  subst hp
  intro vm0 n1 ad T locs X hB hn1 hA hN hG hF
  have hZ : Z.Warmed39 (s.setVm vm0).vm := State.Warmed39.trans hZ0 (isOfB hB)
  have hown : (s.setVm vm0).vm.findClass own = some m.cls := by show vm0.findClass own = _; rw [(isOfB hB).alike.findClass]; exact hown0
  obtain ⟨t, o, st, h⟩ := hr vm0 n1 ad T locs X hB hn1 hA hN hG hF
  exact ⟨t, o, XS.istore X.here hx rfl (Jvm.hb hby hd) rfl (store_map (v := .int x) ho rfl) st, h⟩
theorem Walk.istoreN (W : Walk fl tab sig l Z a0 n0 ol own nm bytes maxL ret R Q J) {i : Fin 4} {i' : Nat} {x : Int32} (hd : decode bytes pc = .ok (.istore_n i, 1)) (ho : ok1 Ls[i']? = true) (hr : J pc' (Ls.set i' (.val (.int x))) (S) G k sl) (hp : pc + 1 = pc' := by rfl) (hi : i.val = i' := by rfl) : J pc Ls (.int x :: S) G k sl := by
  obtain ⟨ad0, N0, p, e, s, m, args, below, meth, c, rfl, hx, hby, hml, hret, hlk, hnm, hZ0, hown0, hw, hS⟩ := W
  subst hp
  intro vm0 n1 ad T locs X hB hn1 hA hN hG hF
  have hZ : Z.Warmed39 (s.setVm vm0).vm := State.Warmed39.trans hZ0 (isOfB hB)
  have hown : (s.setVm vm0).vm.findClass own = some m.cls := by show vm0.findClass own = _; rw [(isOfB hB).alike.findClass]; exact hown0
  obtain ⟨t, o, st, h⟩ := hr vm0 n1 ad T locs X hB hn1 hA hN hG hF
  exact ⟨t, o, by subst hi; exact XS.istoreN X.here hx rfl (Jvm.hb hby hd) rfl (store_map (v := .int x) ho rfl) st, h⟩
theorem Walk.astore (W : Walk fl tab sig l Z a0 n0 ol own nm bytes maxL ret R Q J) {i : Nat} {x : Value} (hd : decode bytes pc = .ok (.astore i, 2)) (hv : x.isRef = true) (ho : ok1 Ls[i]? = true) (hr : J pc' (Ls.set i (.val x)) (S) G k sl) (hp : pc + 2 = pc' := by rfl) : J pc Ls (x :: S) G k sl := by
  obtain ⟨ad0, N0, p, e, s, m, args, below, meth, c, rfl, hx, hby, hml, hret, hlk, hnm, hZ0, hown0, hw, hS⟩ := W
  subst hp
  intro vm0 n1 ad T locs X hB hn1 hA hN hG hF
  have hZ : Z.Warmed39 (s.setVm vm0).vm := State.Warmed39.trans hZ0 (isOfB hB)
  have hown : (s.setVm vm0).vm.findClass own = some m.cls := by show vm0.findClass own = _; rw [(isOfB hB).alike.findClass]; exact hown0
  obtain ⟨t, o, st, h⟩ := hr vm0 n1 ad T locs X hB hn1 hA hN hG hF
  exact ⟨t, o, XS.astore X.here hx rfl (Jvm.hb hby hd) rfl (by rw [rv_isRef]; exact hv) (store_map ho (XT.cat1 hv)) st, h⟩
theorem Walk.astoreN (W : Walk fl tab sig l Z a0 n0 ol own nm bytes maxL ret R Q J) {i : Fin 4} {i' : Nat} {x : Value} (hd : decode bytes pc = .ok (.astore_n i, 1)) (hv : x.isRef = true) (ho : ok1 Ls[i']? = true) (hr : J pc' (Ls.set i' (.val x)) (S) G k sl) (hp : pc + 1 = pc' := by rfl) (hi : i.val = i' := by rfl) : J pc Ls (x :: S) G k sl := by
  obtain ⟨ad0, N0, p, e, s, m, args, below, meth, c, rfl, hx, hby, hml, hret, hlk, hnm, hZ0, hown0, hw, hS⟩ := W
  subst hp
  intro vm0 n1 ad T locs X hB hn1 hA hN hG hF
  have hZ : Z.Warmed39 (s.setVm vm0).vm := State.Warmed39.trans hZ0 (isOfB hB)
  have hown : (s.setVm vm0).vm.findClass own = some m.cls := by show vm0.findClass own = _; rw [(isOfB hB).alike.findClass]; exact hown0
  obtain ⟨t, o, st, h⟩ := hr vm0 n1 ad T locs X hB hn1 hA hN hG hF
  exact ⟨t, o, by subst hi; exact XS.astoreN X.here hx rfl (Jvm.hb hby hd) rfl (by rw [rv_isRef]; exact hv) (store_map ho (XT.cat1 hv)) st, h⟩
theorem Walk.iinc (W : Walk fl tab sig l Z a0 n0 ol own nm bytes maxL ret R Q J) {i : Nat} {cst : Int} (v : Int32) {x : Int32} (hd : decode bytes pc = .ok (.iinc i cst, 3)) (hv : Int32.ofInt cst = v) (hl : Ls[i]? = some (.val (.int x))) (hr : J pc' (Ls.set i (.val (.int (x + v)))) (S) G k sl) (hp : pc + 3 = pc' := by rfl) : J pc Ls (S) G k sl := by
  obtain ⟨ad0, N0, p, e, s, m, args, below, meth, c, rfl, hx, hby, hml, hret, hlk, hnm, hZ0, hown0, hw, hS⟩ := W
  subst hp
  intro vm0 n1 ad T locs X hB hn1 hA hN hG hF
  have hZ : Z.Warmed39 (s.setVm vm0).vm := State.Warmed39.trans hZ0 (isOfB hB)
  have hown : (s.setVm vm0).vm.findClass own = some m.cls := by show vm0.findClass own = _; rw [(isOfB hB).alike.findClass]; exact hown0
  obtain ⟨t, o, st, h⟩ := hr vm0 n1 ad T locs X hB hn1 hA hN hG hF
  exact ⟨t, o, XT.iincV X.here hx rfl v (Jvm.hb hby hd) hv (get_map hl) (store_map (v := .int (x + v)) (by rw [hl]; rfl) rfl) st, h⟩
theorem Walk.ldcI (W : Walk fl tab sig l Z a0 n0 ol own nm bytes maxL ret R Q J) {i : Nat} {v : Int32} (hd : decode bytes pc = .ok (.ldc i, 2)) (hc : Jvm.Cond.constant own i v ∈ tab) (hr : J pc' Ls (.int v :: S) G k sl) (hp : pc + 2 = pc' := by rfl) : J pc Ls (S) G k sl := by
  obtain ⟨ad0, N0, p, e, s, m, args, below, meth, c, rfl, hx, hby, hml, hret, hlk, hnm, hZ0, hown0, hw, hS⟩ := W
  subst hp
  intro vm0 n1 ad T locs X hB hn1 hA hN hG hF
  have hZ : Z.Warmed39 (s.setVm vm0).vm := State.Warmed39.trans hZ0 (isOfB hB)
  have hown : (s.setVm vm0).vm.findClass own = some m.cls := by show vm0.findClass own = _; rw [(isOfB hB).alike.findClass]; exact hown0
  obtain ⟨t, o, st, h⟩ := hr vm0 n1 ad T locs X hB hn1 hA hN hG hF
  exact ⟨t, o, X.ldcInt hx hown (mvT hZ (hw _ hc)) (g := mkF m pc (Ls.map (rs ad)).toArray (S.map (rv ad))) rfl (Jvm.hb hby hd) _ st, h⟩
theorem Walk.ldcwI (W : Walk fl tab sig l Z a0 n0 ol own nm bytes maxL ret R Q J) {i : Nat} {v : Int32} (hd : decode bytes pc = .ok (.ldc_w i, 3)) (hc : Jvm.Cond.constant own i v ∈ tab) (hr : J pc' Ls (.int v :: S) G k sl) (hp : pc + 3 = pc' := by rfl) : J pc Ls (S) G k sl := by
  obtain ⟨ad0, N0, p, e, s, m, args, below, meth, c, rfl, hx, hby, hml, hret, hlk, hnm, hZ0, hown0, hw, hS⟩ := W
  subst hp
  intro vm0 n1 ad T locs X hB hn1 hA hN hG hF
  have hZ : Z.Warmed39 (s.setVm vm0).vm := State.Warmed39.trans hZ0 (isOfB hB)
  have hown : (s.setVm vm0).vm.findClass own = some m.cls := by show vm0.findClass own = _; rw [(isOfB hB).alike.findClass]; exact hown0
  obtain ⟨t, o, st, h⟩ := hr vm0 n1 ad T locs X hB hn1 hA hN hG hF
  exact ⟨t, o, X.ldcwInt hx hown (mvT hZ (hw _ hc)) (g := mkF m pc (Ls.map (rs ad)).toArray (S.map (rv ad))) rfl (Jvm.hb hby hd) _ st, h⟩
theorem Walk.ldc2J (W : Walk fl tab sig l Z a0 n0 ol own nm bytes maxL ret R Q J) {i : Nat} {v : Int64} (hd : decode bytes pc = .ok (.ldc2_w i, 3)) (hc : Jvm.Cond.constantLong own i v ∈ tab) (hr : J pc' Ls (.long v :: S) G k sl) (hp : pc + 3 = pc' := by rfl) : J pc Ls (S) G k sl := by
  obtain ⟨ad0, N0, p, e, s, m, args, below, meth, c, rfl, hx, hby, hml, hret, hlk, hnm, hZ0, hown0, hw, hS⟩ := W
  subst hp
  intro vm0 n1 ad T locs X hB hn1 hA hN hG hF
  have hZ : Z.Warmed39 (s.setVm vm0).vm := State.Warmed39.trans hZ0 (isOfB hB)
  have hown : (s.setVm vm0).vm.findClass own = some m.cls := by show vm0.findClass own = _; rw [(isOfB hB).alike.findClass]; exact hown0
  obtain ⟨t, o, st, h⟩ := hr vm0 n1 ad T locs X hB hn1 hA hN hG hF
  exact ⟨t, o, X.ldc2Long hx hown (mvT hZ (hw _ hc)) (g := mkF m pc (Ls.map (rs ad)).toArray (S.map (rv ad))) rfl (Jvm.hb hby hd) _ st, h⟩
theorem Walk.goto (W : Walk fl tab sig l Z a0 n0 ol own nm bytes maxL ret R Q J) {o : Int} (hd : decode bytes pc = .ok (.goto o, 3)) (hr : J pc' Ls S G k sl) (ho : 0 ≤ (pc : Int) + o := by decide) (hp : ((pc : Int) + o).toNat = pc' := by decide) : J pc Ls S G k sl := by
  obtain ⟨ad0, N0, p, e, s, m, args, below, meth, c, rfl, hx, hby, hml, hret, hlk, hnm, hZ0, hown0, hw, hS⟩ := W
  intro vm0 n1 ad T locs X hB hn1 hA hN hG hF
  obtain ⟨t, o, st, h⟩ := hr vm0 n1 ad T locs X hB hn1 hA hN hG hF
  exact ⟨t, o, XS.goto X.here hx rfl rfl (Jvm.hb hby hd) ho hp st, h⟩
theorem Walk.if_eq (W : Walk fl tab sig l Z a0 n0 ol own nm bytes maxL ret R Q J) {x : Int32} {o : Int} {pc2 : Nat} (hd : decode bytes pc = .ok (.ifCond .eq o, 3)) (hT : (x = 0) → J pc' Ls S G k sl) (hF' : ¬ (x = 0) → J pc2 Ls S G k sl) (ho : 0 ≤ (pc : Int) + o := by decide) (hp : ((pc : Int) + o).toNat = pc' := by decide) (hp2 : pc + 3 = pc2 := by rfl) : J pc Ls (.int x :: S) G k sl := by
  obtain ⟨ad0, N0, p, e, s, m, args, below, meth, c, rfl, hx, hby, hml, hret, hlk, hnm, hZ0, hown0, hw, hS⟩ := W
  subst hp2
  intro vm0 n1 ad T locs X hB hn1 hA hN hG hF
  have hZ : Z.Warmed39 (s.setVm vm0).vm := State.Warmed39.trans hZ0 (isOfB hB)
  have hown : (s.setVm vm0).vm.findClass own = some m.cls := by show vm0.findClass own = _; rw [(isOfB hB).alike.findClass]; exact hown0
  by_cases q : (x = 0)
  · obtain ⟨t, o, st, h⟩ := hT q vm0 n1 ad T locs X hB hn1 hA hN hG hF
    exact ⟨t, o, XS.ifYes X.here hx rfl rfl (Jvm.hb hby hd) rfl (XT.i0_eq_t q) ho hp st, h⟩
  · obtain ⟨t, o, st, h⟩ := hF' q vm0 n1 ad T locs X hB hn1 hA hN hG hF
    exact ⟨t, o, XS.ifNo X.here hx rfl (Jvm.hb hby hd) rfl (XT.i0_eq_f q) st, h⟩
theorem Walk.icmp_eq (W : Walk fl tab sig l Z a0 n0 ol own nm bytes maxL ret R Q J) {x y : Int32} {o : Int} {pc2 : Nat} (hd : decode bytes pc = .ok (.if_icmp .eq o, 3)) (hT : (x = y) → J pc' Ls S G k sl) (hF' : ¬ (x = y) → J pc2 Ls S G k sl) (ho : 0 ≤ (pc : Int) + o := by decide) (hp : ((pc : Int) + o).toNat = pc' := by decide) (hp2 : pc + 3 = pc2 := by rfl) : J pc Ls (.int y :: .int x :: S) G k sl := by
  obtain ⟨ad0, N0, p, e, s, m, args, below, meth, c, rfl, hx, hby, hml, hret, hlk, hnm, hZ0, hown0, hw, hS⟩ := W
  subst hp2
  intro vm0 n1 ad T locs X hB hn1 hA hN hG hF
  have hZ : Z.Warmed39 (s.setVm vm0).vm := State.Warmed39.trans hZ0 (isOfB hB)
  have hown : (s.setVm vm0).vm.findClass own = some m.cls := by show vm0.findClass own = _; rw [(isOfB hB).alike.findClass]; exact hown0
  by_cases q : (x = y)
  · obtain ⟨t, o, st, h⟩ := hT q vm0 n1 ad T locs X hB hn1 hA hN hG hF
    exact ⟨t, o, XS.icmpYes X.here hx rfl rfl (Jvm.hb hby hd) rfl (XT.ii_eq_t q) ho hp st, h⟩
  · obtain ⟨t, o, st, h⟩ := hF' q vm0 n1 ad T locs X hB hn1 hA hN hG hF
    exact ⟨t, o, XS.icmpNo X.here hx rfl (Jvm.hb hby hd) rfl (XT.ii_eq_f q) st, h⟩
theorem Walk.ifl_eq (W : Walk fl tab sig l Z a0 n0 ol own nm bytes maxL ret R Q J) {x y : Int64} {o : Int} {pc2 : Nat} (hd : decode bytes pc = .ok (.ifCond .eq o, 3)) (hT : (x = y) → J pc' Ls S G k sl) (hF' : ¬ (x = y) → J pc2 Ls S G k sl) (ho : 0 ≤ (pc : Int) + o := by decide) (hp : ((pc : Int) + o).toNat = pc' := by decide) (hp2 : pc + 3 = pc2 := by rfl) : J pc Ls (.int (XT.cmpL x y) :: S) G k sl := by
  obtain ⟨ad0, N0, p, e, s, m, args, below, meth, c, rfl, hx, hby, hml, hret, hlk, hnm, hZ0, hown0, hw, hS⟩ := W
  subst hp2
  intro vm0 n1 ad T locs X hB hn1 hA hN hG hF
  have hZ : Z.Warmed39 (s.setVm vm0).vm := State.Warmed39.trans hZ0 (isOfB hB)
  have hown : (s.setVm vm0).vm.findClass own = some m.cls := by show vm0.findClass own = _; rw [(isOfB hB).alike.findClass]; exact hown0
  by_cases q : (x = y)
  · obtain ⟨t, o, st, h⟩ := hT q vm0 n1 ad T locs X hB hn1 hA hN hG hF
    exact ⟨t, o, XS.ifYes X.here hx rfl rfl (Jvm.hb hby hd) rfl (XT.ll_eq_t q) ho hp st, h⟩
  · obtain ⟨t, o, st, h⟩ := hF' q vm0 n1 ad T locs X hB hn1 hA hN hG hF
    exact ⟨t, o, XS.ifNo X.here hx rfl (Jvm.hb hby hd) rfl (XT.ll_eq_f q) st, h⟩
theorem Walk.if_ne (W : Walk fl tab sig l Z a0 n0 ol own nm bytes maxL ret R Q J) {x : Int32} {o : Int} {pc2 : Nat} (hd : decode bytes pc = .ok (.ifCond .ne o, 3)) (hT : (x = 0) → J pc2 Ls S G k sl) (hF' : ¬ (x = 0) → J pc' Ls S G k sl) (ho : 0 ≤ (pc : Int) + o := by decide) (hp : ((pc : Int) + o).toNat = pc' := by decide) (hp2 : pc + 3 = pc2 := by rfl) : J pc Ls (.int x :: S) G k sl := by
  obtain ⟨ad0, N0, p, e, s, m, args, below, meth, c, rfl, hx, hby, hml, hret, hlk, hnm, hZ0, hown0, hw, hS⟩ := W
  subst hp2
  intro vm0 n1 ad T locs X hB hn1 hA hN hG hF
  have hZ : Z.Warmed39 (s.setVm vm0).vm := State.Warmed39.trans hZ0 (isOfB hB)
  have hown : (s.setVm vm0).vm.findClass own = some m.cls := by show vm0.findClass own = _; rw [(isOfB hB).alike.findClass]; exact hown0
  by_cases q : (x = 0)
  · obtain ⟨t, o, st, h⟩ := hT q vm0 n1 ad T locs X hB hn1 hA hN hG hF
    exact ⟨t, o, XS.ifNo X.here hx rfl (Jvm.hb hby hd) rfl (XT.i0_ne_f q) st, h⟩
  · obtain ⟨t, o, st, h⟩ := hF' q vm0 n1 ad T locs X hB hn1 hA hN hG hF
    exact ⟨t, o, XS.ifYes X.here hx rfl rfl (Jvm.hb hby hd) rfl (XT.i0_ne_t q) ho hp st, h⟩
theorem Walk.icmp_ne (W : Walk fl tab sig l Z a0 n0 ol own nm bytes maxL ret R Q J) {x y : Int32} {o : Int} {pc2 : Nat} (hd : decode bytes pc = .ok (.if_icmp .ne o, 3)) (hT : (x = y) → J pc2 Ls S G k sl) (hF' : ¬ (x = y) → J pc' Ls S G k sl) (ho : 0 ≤ (pc : Int) + o := by decide) (hp : ((pc : Int) + o).toNat = pc' := by decide) (hp2 : pc + 3 = pc2 := by rfl) : J pc Ls (.int y :: .int x :: S) G k sl := by
  obtain ⟨ad0, N0, p, e, s, m, args, below, meth, c, rfl, hx, hby, hml, hret, hlk, hnm, hZ0, hown0, hw, hS⟩ := W
  subst hp2
  intro vm0 n1 ad T locs X hB hn1 hA hN hG hF
  have hZ : Z.Warmed39 (s.setVm vm0).vm := State.Warmed39.trans hZ0 (isOfB hB)
  have hown : (s.setVm vm0).vm.findClass own = some m.cls := by show vm0.findClass own = _; rw [(isOfB hB).alike.findClass]; exact hown0
  by_cases q : (x = y)
  · obtain ⟨t, o, st, h⟩ := hT q vm0 n1 ad T locs X hB hn1 hA hN hG hF
    exact ⟨t, o, XS.icmpNo X.here hx rfl (Jvm.hb hby hd) rfl (XT.ii_ne_f q) st, h⟩
  · obtain ⟨t, o, st, h⟩ := hF' q vm0 n1 ad T locs X hB hn1 hA hN hG hF
    exact ⟨t, o, XS.icmpYes X.here hx rfl rfl (Jvm.hb hby hd) rfl (XT.ii_ne_t q) ho hp st, h⟩
theorem Walk.ifl_ne (W : Walk fl tab sig l Z a0 n0 ol own nm bytes maxL ret R Q J) {x y : Int64} {o : Int} {pc2 : Nat} (hd : decode bytes pc = .ok (.ifCond .ne o, 3)) (hT : (x = y) → J pc2 Ls S G k sl) (hF' : ¬ (x = y) → J pc' Ls S G k sl) (ho : 0 ≤ (pc : Int) + o := by decide) (hp : ((pc : Int) + o).toNat = pc' := by decide) (hp2 : pc + 3 = pc2 := by rfl) : J pc Ls (.int (XT.cmpL x y) :: S) G k sl := by
  obtain ⟨ad0, N0, p, e, s, m, args, below, meth, c, rfl, hx, hby, hml, hret, hlk, hnm, hZ0, hown0, hw, hS⟩ := W
  subst hp2
  intro vm0 n1 ad T locs X hB hn1 hA hN hG hF
  have hZ : Z.Warmed39 (s.setVm vm0).vm := State.Warmed39.trans hZ0 (isOfB hB)
  have hown : (s.setVm vm0).vm.findClass own = some m.cls := by show vm0.findClass own = _; rw [(isOfB hB).alike.findClass]; exact hown0
  by_cases q : (x = y)
  · obtain ⟨t, o, st, h⟩ := hT q vm0 n1 ad T locs X hB hn1 hA hN hG hF
    exact ⟨t, o, XS.ifNo X.here hx rfl (Jvm.hb hby hd) rfl (XT.ll_ne_f q) st, h⟩
  · obtain ⟨t, o, st, h⟩ := hF' q vm0 n1 ad T locs X hB hn1 hA hN hG hF
    exact ⟨t, o, XS.ifYes X.here hx rfl rfl (Jvm.hb hby hd) rfl (XT.ll_ne_t q) ho hp st, h⟩
theorem Walk.if_lt (W : Walk fl tab sig l Z a0 n0 ol own nm bytes maxL ret R Q J) {x : Int32} {o : Int} {pc2 : Nat} (hd : decode bytes pc = .ok (.ifCond .lt o, 3)) (hT : (x < 0) → J pc' Ls S G k sl) (hF' : ¬ (x < 0) → J pc2 Ls S G k sl) (ho : 0 ≤ (pc : Int) + o := by decide) (hp : ((pc : Int) + o).toNat = pc' := by decide) (hp2 : pc + 3 = pc2 := by rfl) : J pc Ls (.int x :: S) G k sl := by
  obtain ⟨ad0, N0, p, e, s, m, args, below, meth, c, rfl, hx, hby, hml, hret, hlk, hnm, hZ0, hown0, hw, hS⟩ := W
  subst hp2
  intro vm0 n1 ad T locs X hB hn1 hA hN hG hF
  have hZ : Z.Warmed39 (s.setVm vm0).vm := State.Warmed39.trans hZ0 (isOfB hB)
  have hown : (s.setVm vm0).vm.findClass own = some m.cls := by show vm0.findClass own = _; rw [(isOfB hB).alike.findClass]; exact hown0
  by_cases q : (x < 0)
  · obtain ⟨t, o, st, h⟩ := hT q vm0 n1 ad T locs X hB hn1 hA hN hG hF
    exact ⟨t, o, XS.ifYes X.here hx rfl rfl (Jvm.hb hby hd) rfl (XT.i0_lt_t q) ho hp st, h⟩
  · obtain ⟨t, o, st, h⟩ := hF' q vm0 n1 ad T locs X hB hn1 hA hN hG hF
    exact ⟨t, o, XS.ifNo X.here hx rfl (Jvm.hb hby hd) rfl (XT.i0_lt_f q) st, h⟩
theorem Walk.icmp_lt (W : Walk fl tab sig l Z a0 n0 ol own nm bytes maxL ret R Q J) {x y : Int32} {o : Int} {pc2 : Nat} (hd : decode bytes pc = .ok (.if_icmp .lt o, 3)) (hT : (x < y) → J pc' Ls S G k sl) (hF' : ¬ (x < y) → J pc2 Ls S G k sl) (ho : 0 ≤ (pc : Int) + o := by decide) (hp : ((pc : Int) + o).toNat = pc' := by decide) (hp2 : pc + 3 = pc2 := by rfl) : J pc Ls (.int y :: .int x :: S) G k sl := by
  obtain ⟨ad0, N0, p, e, s, m, args, below, meth, c, rfl, hx, hby, hml, hret, hlk, hnm, hZ0, hown0, hw, hS⟩ := W
  subst hp2
  intro vm0 n1 ad T locs X hB hn1 hA hN hG hF
  have hZ : Z.Warmed39 (s.setVm vm0).vm := State.Warmed39.trans hZ0 (isOfB hB)
  have hown : (s.setVm vm0).vm.findClass own = some m.cls := by show vm0.findClass own = _; rw [(isOfB hB).alike.findClass]; exact hown0
  by_cases q : (x < y)
  · obtain ⟨t, o, st, h⟩ := hT q vm0 n1 ad T locs X hB hn1 hA hN hG hF
    exact ⟨t, o, XS.icmpYes X.here hx rfl rfl (Jvm.hb hby hd) rfl (XT.ii_lt_t q) ho hp st, h⟩
  · obtain ⟨t, o, st, h⟩ := hF' q vm0 n1 ad T locs X hB hn1 hA hN hG hF
    exact ⟨t, o, XS.icmpNo X.here hx rfl (Jvm.hb hby hd) rfl (XT.ii_lt_f q) st, h⟩
theorem Walk.ifl_lt (W : Walk fl tab sig l Z a0 n0 ol own nm bytes maxL ret R Q J) {x y : Int64} {o : Int} {pc2 : Nat} (hd : decode bytes pc = .ok (.ifCond .lt o, 3)) (hT : (x < y) → J pc' Ls S G k sl) (hF' : ¬ (x < y) → J pc2 Ls S G k sl) (ho : 0 ≤ (pc : Int) + o := by decide) (hp : ((pc : Int) + o).toNat = pc' := by decide) (hp2 : pc + 3 = pc2 := by rfl) : J pc Ls (.int (XT.cmpL x y) :: S) G k sl := by
  obtain ⟨ad0, N0, p, e, s, m, args, below, meth, c, rfl, hx, hby, hml, hret, hlk, hnm, hZ0, hown0, hw, hS⟩ := W
  subst hp2
  intro vm0 n1 ad T locs X hB hn1 hA hN hG hF
  have hZ : Z.Warmed39 (s.setVm vm0).vm := State.Warmed39.trans hZ0 (isOfB hB)
  have hown : (s.setVm vm0).vm.findClass own = some m.cls := by show vm0.findClass own = _; rw [(isOfB hB).alike.findClass]; exact hown0
  by_cases q : (x < y)
  · obtain ⟨t, o, st, h⟩ := hT q vm0 n1 ad T locs X hB hn1 hA hN hG hF
    exact ⟨t, o, XS.ifYes X.here hx rfl rfl (Jvm.hb hby hd) rfl (XT.ll_lt_t q) ho hp st, h⟩
  · obtain ⟨t, o, st, h⟩ := hF' q vm0 n1 ad T locs X hB hn1 hA hN hG hF
    exact ⟨t, o, XS.ifNo X.here hx rfl (Jvm.hb hby hd) rfl (XT.ll_lt_f q) st, h⟩
theorem Walk.if_ge (W : Walk fl tab sig l Z a0 n0 ol own nm bytes maxL ret R Q J) {x : Int32} {o : Int} {pc2 : Nat} (hd : decode bytes pc = .ok (.ifCond .ge o, 3)) (hT : (x < 0) → J pc2 Ls S G k sl) (hF' : ¬ (x < 0) → J pc' Ls S G k sl) (ho : 0 ≤ (pc : Int) + o := by decide) (hp : ((pc : Int) + o).toNat = pc' := by decide) (hp2 : pc + 3 = pc2 := by rfl) : J pc Ls (.int x :: S) G k sl := by
  obtain ⟨ad0, N0, p, e, s, m, args, below, meth, c, rfl, hx, hby, hml, hret, hlk, hnm, hZ0, hown0, hw, hS⟩ := W
  subst hp2
  intro vm0 n1 ad T locs X hB hn1 hA hN hG hF
  have hZ : Z.Warmed39 (s.setVm vm0).vm := State.Warmed39.trans hZ0 (isOfB hB)
  have hown : (s.setVm vm0).vm.findClass own = some m.cls := by show vm0.findClass own = _; rw [(isOfB hB).alike.findClass]; exact hown0
  by_cases q : (x < 0)
  · obtain ⟨t, o, st, h⟩ := hT q vm0 n1 ad T locs X hB hn1 hA hN hG hF
    exact ⟨t, o, XS.ifNo X.here hx rfl (Jvm.hb hby hd) rfl (XT.i0_ge_f q) st, h⟩
  · obtain ⟨t, o, st, h⟩ := hF' q vm0 n1 ad T locs X hB hn1 hA hN hG hF
    exact ⟨t, o, XS.ifYes X.here hx rfl rfl (Jvm.hb hby hd) rfl (XT.i0_ge_t q) ho hp st, h⟩
theorem Walk.icmp_ge (W : Walk fl tab sig l Z a0 n0 ol own nm bytes maxL ret R Q J) {x y : Int32} {o : Int} {pc2 : Nat} (hd : decode bytes pc = .ok (.if_icmp .ge o, 3)) (hT : (x < y) → J pc2 Ls S G k sl) (hF' : ¬ (x < y) → J pc' Ls S G k sl) (ho : 0 ≤ (pc : Int) + o := by decide) (hp : ((pc : Int) + o).toNat = pc' := by decide) (hp2 : pc + 3 = pc2 := by rfl) : J pc Ls (.int y :: .int x :: S) G k sl := by
  obtain ⟨ad0, N0, p, e, s, m, args, below, meth, c, rfl, hx, hby, hml, hret, hlk, hnm, hZ0, hown0, hw, hS⟩ := W
  subst hp2
  intro vm0 n1 ad T locs X hB hn1 hA hN hG hF
  have hZ : Z.Warmed39 (s.setVm vm0).vm := State.Warmed39.trans hZ0 (isOfB hB)
  have hown : (s.setVm vm0).vm.findClass own = some m.cls := by show vm0.findClass own = _; rw [(isOfB hB).alike.findClass]; exact hown0
  by_cases q : (x < y)
  · obtain ⟨t, o, st, h⟩ := hT q vm0 n1 ad T locs X hB hn1 hA hN hG hF
    exact ⟨t, o, XS.icmpNo X.here hx rfl (Jvm.hb hby hd) rfl (XT.ii_ge_f q) st, h⟩
  · obtain ⟨t, o, st, h⟩ := hF' q vm0 n1 ad T locs X hB hn1 hA hN hG hF
    exact ⟨t, o, XS.icmpYes X.here hx rfl rfl (Jvm.hb hby hd) rfl (XT.ii_ge_t q) ho hp st, h⟩
theorem Walk.ifl_ge (W : Walk fl tab sig l Z a0 n0 ol own nm bytes maxL ret R Q J) {x y : Int64} {o : Int} {pc2 : Nat} (hd : decode bytes pc = .ok (.ifCond .ge o, 3)) (hT : (x < y) → J pc2 Ls S G k sl) (hF' : ¬ (x < y) → J pc' Ls S G k sl) (ho : 0 ≤ (pc : Int) + o := by decide) (hp : ((pc : Int) + o).toNat = pc' := by decide) (hp2 : pc + 3 = pc2 := by rfl) : J pc Ls (.int (XT.cmpL x y) :: S) G k sl := by
  obtain ⟨ad0, N0, p, e, s, m, args, below, meth, c, rfl, hx, hby, hml, hret, hlk, hnm, hZ0, hown0, hw, hS⟩ := W
  subst hp2
  intro vm0 n1 ad T locs X hB hn1 hA hN hG hF
  have hZ : Z.Warmed39 (s.setVm vm0).vm := State.Warmed39.trans hZ0 (isOfB hB)
  have hown : (s.setVm vm0).vm.findClass own = some m.cls := by show vm0.findClass own = _; rw [(isOfB hB).alike.findClass]; exact hown0
  by_cases q : (x < y)
  · obtain ⟨t, o, st, h⟩ := hT q vm0 n1 ad T locs X hB hn1 hA hN hG hF
    exact ⟨t, o, XS.ifNo X.here hx rfl (Jvm.hb hby hd) rfl (XT.ll_ge_f q) st, h⟩
  · obtain ⟨t, o, st, h⟩ := hF' q vm0 n1 ad T locs X hB hn1 hA hN hG hF
    exact ⟨t, o, XS.ifYes X.here hx rfl rfl (Jvm.hb hby hd) rfl (XT.ll_ge_t q) ho hp st, h⟩
theorem Walk.if_gt (W : Walk fl tab sig l Z a0 n0 ol own nm bytes maxL ret R Q J) {x : Int32} {o : Int} {pc2 : Nat} (hd : decode bytes pc = .ok (.ifCond .gt o, 3)) (hT : (0 < x) → J pc' Ls S G k sl) (hF' : ¬ (0 < x) → J pc2 Ls S G k sl) (ho : 0 ≤ (pc : Int) + o := by decide) (hp : ((pc : Int) + o).toNat = pc' := by decide) (hp2 : pc + 3 = pc2 := by rfl) : J pc Ls (.int x :: S) G k sl := by
  obtain ⟨ad0, N0, p, e, s, m, args, below, meth, c, rfl, hx, hby, hml, hret, hlk, hnm, hZ0, hown0, hw, hS⟩ := W
  subst hp2
  intro vm0 n1 ad T locs X hB hn1 hA hN hG hF
  have hZ : Z.Warmed39 (s.setVm vm0).vm := State.Warmed39.trans hZ0 (isOfB hB)
  have hown : (s.setVm vm0).vm.findClass own = some m.cls := by show vm0.findClass own = _; rw [(isOfB hB).alike.findClass]; exact hown0
  by_cases q : (0 < x)
  · obtain ⟨t, o, st, h⟩ := hT q vm0 n1 ad T locs X hB hn1 hA hN hG hF
    exact ⟨t, o, XS.ifYes X.here hx rfl rfl (Jvm.hb hby hd) rfl (XT.i0_gt_t q) ho hp st, h⟩
  · obtain ⟨t, o, st, h⟩ := hF' q vm0 n1 ad T locs X hB hn1 hA hN hG hF
    exact ⟨t, o, XS.ifNo X.here hx rfl (Jvm.hb hby hd) rfl (XT.i0_gt_f q) st, h⟩
theorem Walk.icmp_gt (W : Walk fl tab sig l Z a0 n0 ol own nm bytes maxL ret R Q J) {x y : Int32} {o : Int} {pc2 : Nat} (hd : decode bytes pc = .ok (.if_icmp .gt o, 3)) (hT : (y < x) → J pc' Ls S G k sl) (hF' : ¬ (y < x) → J pc2 Ls S G k sl) (ho : 0 ≤ (pc : Int) + o := by decide) (hp : ((pc : Int) + o).toNat = pc' := by decide) (hp2 : pc + 3 = pc2 := by rfl) : J pc Ls (.int y :: .int x :: S) G k sl := by
  obtain ⟨ad0, N0, p, e, s, m, args, below, meth, c, rfl, hx, hby, hml, hret, hlk, hnm, hZ0, hown0, hw, hS⟩ := W
  subst hp2
  intro vm0 n1 ad T locs X hB hn1 hA hN hG hF
  have hZ : Z.Warmed39 (s.setVm vm0).vm := State.Warmed39.trans hZ0 (isOfB hB)
  have hown : (s.setVm vm0).vm.findClass own = some m.cls := by show vm0.findClass own = _; rw [(isOfB hB).alike.findClass]; exact hown0
  by_cases q : (y < x)
  · obtain ⟨t, o, st, h⟩ := hT q vm0 n1 ad T locs X hB hn1 hA hN hG hF
    exact ⟨t, o, XS.icmpYes X.here hx rfl rfl (Jvm.hb hby hd) rfl (XT.ii_gt_t q) ho hp st, h⟩
  · obtain ⟨t, o, st, h⟩ := hF' q vm0 n1 ad T locs X hB hn1 hA hN hG hF
    exact ⟨t, o, XS.icmpNo X.here hx rfl (Jvm.hb hby hd) rfl (XT.ii_gt_f q) st, h⟩
theorem Walk.ifl_gt (W : Walk fl tab sig l Z a0 n0 ol own nm bytes maxL ret R Q J) {x y : Int64} {o : Int} {pc2 : Nat} (hd : decode bytes pc = .ok (.ifCond .gt o, 3)) (hT : (y < x) → J pc' Ls S G k sl) (hF' : ¬ (y < x) → J pc2 Ls S G k sl) (ho : 0 ≤ (pc : Int) + o := by decide) (hp : ((pc : Int) + o).toNat = pc' := by decide) (hp2 : pc + 3 = pc2 := by rfl) : J pc Ls (.int (XT.cmpL x y) :: S) G k sl := by
  obtain ⟨ad0, N0, p, e, s, m, args, below, meth, c, rfl, hx, hby, hml, hret, hlk, hnm, hZ0, hown0, hw, hS⟩ := W
  subst hp2
  intro vm0 n1 ad T locs X hB hn1 hA hN hG hF
  have hZ : Z.Warmed39 (s.setVm vm0).vm := State.Warmed39.trans hZ0 (isOfB hB)
  have hown : (s.setVm vm0).vm.findClass own = some m.cls := by show vm0.findClass own = _; rw [(isOfB hB).alike.findClass]; exact hown0
  by_cases q : (y < x)
  · obtain ⟨t, o, st, h⟩ := hT q vm0 n1 ad T locs X hB hn1 hA hN hG hF
    exact ⟨t, o, XS.ifYes X.here hx rfl rfl (Jvm.hb hby hd) rfl (XT.ll_gt_t q) ho hp st, h⟩
  · obtain ⟨t, o, st, h⟩ := hF' q vm0 n1 ad T locs X hB hn1 hA hN hG hF
    exact ⟨t, o, XS.ifNo X.here hx rfl (Jvm.hb hby hd) rfl (XT.ll_gt_f q) st, h⟩
theorem Walk.if_le (W : Walk fl tab sig l Z a0 n0 ol own nm bytes maxL ret R Q J) {x : Int32} {o : Int} {pc2 : Nat} (hd : decode bytes pc = .ok (.ifCond .le o, 3)) (hT : (0 < x) → J pc2 Ls S G k sl) (hF' : ¬ (0 < x) → J pc' Ls S G k sl) (ho : 0 ≤ (pc : Int) + o := by decide) (hp : ((pc : Int) + o).toNat = pc' := by decide) (hp2 : pc + 3 = pc2 := by rfl) : J pc Ls (.int x :: S) G k sl := by
  obtain ⟨ad0, N0, p, e, s, m, args, below, meth, c, rfl, hx, hby, hml, hret, hlk, hnm, hZ0, hown0, hw, hS⟩ := W
  subst hp2
  intro vm0 n1 ad T locs X hB hn1 hA hN hG hF
  have hZ : Z.Warmed39 (s.setVm vm0).vm := State.Warmed39.trans hZ0 (isOfB hB)
  have hown : (s.setVm vm0).vm.findClass own = some m.cls := by show vm0.findClass own = _; rw [(isOfB hB).alike.findClass]; exact hown0
  by_cases q : (0 < x)
  · obtain ⟨t, o, st, h⟩ := hT q vm0 n1 ad T locs X hB hn1 hA hN hG hF
    exact ⟨t, o, XS.ifNo X.here hx rfl (Jvm.hb hby hd) rfl (XT.i0_le_f q) st, h⟩
  · obtain ⟨t, o, st, h⟩ := hF' q vm0 n1 ad T locs X hB hn1 hA hN hG hF
    exact ⟨t, o, XS.ifYes X.here hx rfl rfl (Jvm.hb hby hd) rfl (XT.i0_le_t q) ho hp st, h⟩
theorem Walk.icmp_le (W : Walk fl tab sig l Z a0 n0 ol own nm bytes maxL ret R Q J) {x y : Int32} {o : Int} {pc2 : Nat} (hd : decode bytes pc = .ok (.if_icmp .le o, 3)) (hT : (y < x) → J pc2 Ls S G k sl) (hF' : ¬ (y < x) → J pc' Ls S G k sl) (ho : 0 ≤ (pc : Int) + o := by decide) (hp : ((pc : Int) + o).toNat = pc' := by decide) (hp2 : pc + 3 = pc2 := by rfl) : J pc Ls (.int y :: .int x :: S) G k sl := by
  obtain ⟨ad0, N0, p, e, s, m, args, below, meth, c, rfl, hx, hby, hml, hret, hlk, hnm, hZ0, hown0, hw, hS⟩ := W
  subst hp2
  intro vm0 n1 ad T locs X hB hn1 hA hN hG hF
  have hZ : Z.Warmed39 (s.setVm vm0).vm := State.Warmed39.trans hZ0 (isOfB hB)
  have hown : (s.setVm vm0).vm.findClass own = some m.cls := by show vm0.findClass own = _; rw [(isOfB hB).alike.findClass]; exact hown0
  by_cases q : (y < x)
  · obtain ⟨t, o, st, h⟩ := hT q vm0 n1 ad T locs X hB hn1 hA hN hG hF
    exact ⟨t, o, XS.icmpNo X.here hx rfl (Jvm.hb hby hd) rfl (XT.ii_le_f q) st, h⟩
  · obtain ⟨t, o, st, h⟩ := hF' q vm0 n1 ad T locs X hB hn1 hA hN hG hF
    exact ⟨t, o, XS.icmpYes X.here hx rfl rfl (Jvm.hb hby hd) rfl (XT.ii_le_t q) ho hp st, h⟩
theorem Walk.ifl_le (W : Walk fl tab sig l Z a0 n0 ol own nm bytes maxL ret R Q J) {x y : Int64} {o : Int} {pc2 : Nat} (hd : decode bytes pc = .ok (.ifCond .le o, 3)) (hT : (y < x) → J pc2 Ls S G k sl) (hF' : ¬ (y < x) → J pc' Ls S G k sl) (ho : 0 ≤ (pc : Int) + o := by decide) (hp : ((pc : Int) + o).toNat = pc' := by decide) (hp2 : pc + 3 = pc2 := by rfl) : J pc Ls (.int (XT.cmpL x y) :: S) G k sl := by
  obtain ⟨ad0, N0, p, e, s, m, args, below, meth, c, rfl, hx, hby, hml, hret, hlk, hnm, hZ0, hown0, hw, hS⟩ := W
  subst hp2
  intro vm0 n1 ad T locs X hB hn1 hA hN hG hF
  have hZ : Z.Warmed39 (s.setVm vm0).vm := State.Warmed39.trans hZ0 (isOfB hB)
  have hown : (s.setVm vm0).vm.findClass own = some m.cls := by show vm0.findClass own = _; rw [(isOfB hB).alike.findClass]; exact hown0
  by_cases q : (y < x)
  · obtain ⟨t, o, st, h⟩ := hT q vm0 n1 ad T locs X hB hn1 hA hN hG hF
    exact ⟨t, o, XS.ifNo X.here hx rfl (Jvm.hb hby hd) rfl (XT.ll_le_f q) st, h⟩
  · obtain ⟨t, o, st, h⟩ := hF' q vm0 n1 ad T locs X hB hn1 hA hN hG hF
    exact ⟨t, o, XS.ifYes X.here hx rfl rfl (Jvm.hb hby hd) rfl (XT.ll_le_t q) ho hp st, h⟩
theorem Walk.ifnull_t (W : Walk fl tab sig l Z a0 n0 ol own nm bytes maxL ret R Q J)  {o : Int} (hd : decode bytes pc = .ok (.ifnull o, 3)) (hr : J pc' Ls S G k sl) (ho : 0 ≤ (pc : Int) + o := by decide) (hp : ((pc : Int) + o).toNat = pc' := by decide) : J pc Ls (.null :: S) G k sl := by
  obtain ⟨ad0, N0, p, e, s, m, args, below, meth, c, rfl, hx, hby, hml, hret, hlk, hnm, hZ0, hown0, hw, hS⟩ := W
  intro vm0 n1 ad T locs X hB hn1 hA hN hG hF
  have hZ : Z.Warmed39 (s.setVm vm0).vm := State.Warmed39.trans hZ0 (isOfB hB)
  have hown : (s.setVm vm0).vm.findClass own = some m.cls := by show vm0.findClass own = _; rw [(isOfB hB).alike.findClass]; exact hown0
  obtain ⟨t, o, st, h⟩ := hr vm0 n1 ad T locs X hB hn1 hA hN hG hF
  exact ⟨t, o, XS.ifnullYes X.here hx rfl rfl (Jvm.hb hby hd) rfl ho hp st, h⟩
theorem Walk.ifnull_f (W : Walk fl tab sig l Z a0 n0 ol own nm bytes maxL ret R Q J) {a : Addr} {o : Int} (hd : decode bytes pc = .ok (.ifnull o, 3)) (hr : J pc' Ls S G k sl) (hp : pc + 3 = pc' := by rfl) : J pc Ls (.ref a :: S) G k sl := by
  obtain ⟨ad0, N0, p, e, s, m, args, below, meth, c, rfl, hx, hby, hml, hret, hlk, hnm, hZ0, hown0, hw, hS⟩ := W
  subst hp
  intro vm0 n1 ad T locs X hB hn1 hA hN hG hF
  have hZ : Z.Warmed39 (s.setVm vm0).vm := State.Warmed39.trans hZ0 (isOfB hB)
  have hown : (s.setVm vm0).vm.findClass own = some m.cls := by show vm0.findClass own = _; rw [(isOfB hB).alike.findClass]; exact hown0
  obtain ⟨t, o, st, h⟩ := hr vm0 n1 ad T locs X hB hn1 hA hN hG hF
  exact ⟨t, o, XS.ifnullNo X.here hx rfl (Jvm.hb hby hd) rfl st, h⟩
theorem Walk.ifnonnull_t (W : Walk fl tab sig l Z a0 n0 ol own nm bytes maxL ret R Q J) {a : Addr} {o : Int} (hd : decode bytes pc = .ok (.ifnonnull o, 3)) (hr : J pc' Ls S G k sl) (ho : 0 ≤ (pc : Int) + o := by decide) (hp : ((pc : Int) + o).toNat = pc' := by decide) : J pc Ls (.ref a :: S) G k sl := by
  obtain ⟨ad0, N0, p, e, s, m, args, below, meth, c, rfl, hx, hby, hml, hret, hlk, hnm, hZ0, hown0, hw, hS⟩ := W
  intro vm0 n1 ad T locs X hB hn1 hA hN hG hF
  have hZ : Z.Warmed39 (s.setVm vm0).vm := State.Warmed39.trans hZ0 (isOfB hB)
  have hown : (s.setVm vm0).vm.findClass own = some m.cls := by show vm0.findClass own = _; rw [(isOfB hB).alike.findClass]; exact hown0
  obtain ⟨t, o, st, h⟩ := hr vm0 n1 ad T locs X hB hn1 hA hN hG hF
  exact ⟨t, o, XT.ifnonnullYes X.here hx rfl rfl (Jvm.hb hby hd) rfl ho hp st, h⟩
theorem Walk.ifnonnull_f (W : Walk fl tab sig l Z a0 n0 ol own nm bytes maxL ret R Q J)  {o : Int} (hd : decode bytes pc = .ok (.ifnonnull o, 3)) (hr : J pc' Ls S G k sl) (hp : pc + 3 = pc' := by rfl) : J pc Ls (.null :: S) G k sl := by
  obtain ⟨ad0, N0, p, e, s, m, args, below, meth, c, rfl, hx, hby, hml, hret, hlk, hnm, hZ0, hown0, hw, hS⟩ := W
  subst hp
  intro vm0 n1 ad T locs X hB hn1 hA hN hG hF
  have hZ : Z.Warmed39 (s.setVm vm0).vm := State.Warmed39.trans hZ0 (isOfB hB)
  have hown : (s.setVm vm0).vm.findClass own = some m.cls := by show vm0.findClass own = _; rw [(isOfB hB).alike.findClass]; exact hown0
  obtain ⟨t, o, st, h⟩ := hr vm0 n1 ad T locs X hB hn1 hA hN hG hF
  exact ⟨t, o, XT.ifnonnullNo X.here hx rfl (Jvm.hb hby hd) rfl st, h⟩
theorem Walk.dia_if_eq (W : Walk fl tab sig l Z a0 n0 ol own nm bytes maxL ret R Q J) {x : Int32} {o i1 o2 i3 : Int} {pc2 pe : Nat} (va vb : Int32) (hd : decode bytes pc = .ok (.ifCond .eq o, 3)) (h1 : decode bytes pc2 = .ok (.iconst i1, 1)) (h2 : decode bytes (pc2 + 1) = .ok (.goto o2, 3)) (h3 : decode bytes pc' = .ok (.iconst i3, 1)) (e1 : Int32.ofInt i1 = va) (e3 : Int32.ofInt i3 = vb)
    (hr : J pe Ls (.int (if (x = 0) then vb else va) :: S) G k sl) (ho : 0 ≤ (pc : Int) + o := by decide) (hp : ((pc : Int) + o).toNat = pc' := by decide) (hp2 : pc + 3 = pc2 := by rfl) (ho2 : 0 ≤ ((pc2 + 1 : Nat) : Int) + o2 := by decide) (hp3 : (((pc2 + 1 : Nat) : Int) + o2).toNat = pe := by decide) (hp4 : pc' + 1 = pe := by rfl) : J pc Ls (.int x :: S) G k sl := by
  refine W.if_eq (pc' := pc') (pc2 := pc2) hd (fun q => ?_) (fun q => ?_) ho hp hp2
  · rw [if_pos q] at hr
    exact W.iconst vb h3 e3 hr hp4
  · rw [if_neg q] at hr
    exact W.iconst va h1 e1 (W.goto h2 hr ho2 hp3) rfl
theorem Walk.dia_icmp_eq (W : Walk fl tab sig l Z a0 n0 ol own nm bytes maxL ret R Q J) {x y : Int32} {o i1 o2 i3 : Int} {pc2 pe : Nat} (va vb : Int32) (hd : decode bytes pc = .ok (.if_icmp .eq o, 3)) (h1 : decode bytes pc2 = .ok (.iconst i1, 1)) (h2 : decode bytes (pc2 + 1) = .ok (.goto o2, 3)) (h3 : decode bytes pc' = .ok (.iconst i3, 1)) (e1 : Int32.ofInt i1 = va) (e3 : Int32.ofInt i3 = vb)
    (hr : J pe Ls (.int (if (x = y) then vb else va) :: S) G k sl) (ho : 0 ≤ (pc : Int) + o := by decide) (hp : ((pc : Int) + o).toNat = pc' := by decide) (hp2 : pc + 3 = pc2 := by rfl) (ho2 : 0 ≤ ((pc2 + 1 : Nat) : Int) + o2 := by decide) (hp3 : (((pc2 + 1 : Nat) : Int) + o2).toNat = pe := by decide) (hp4 : pc' + 1 = pe := by rfl) : J pc Ls (.int y :: .int x :: S) G k sl := by
  refine W.icmp_eq (pc' := pc') (pc2 := pc2) hd (fun q => ?_) (fun q => ?_) ho hp hp2
  · rw [if_pos q] at hr
    exact W.iconst vb h3 e3 hr hp4
  · rw [if_neg q] at hr
    exact W.iconst va h1 e1 (W.goto h2 hr ho2 hp3) rfl
theorem Walk.dia_ifl_eq (W : Walk fl tab sig l Z a0 n0 ol own nm bytes maxL ret R Q J) {x y : Int64} {o i1 o2 i3 : Int} {pc2 pe : Nat} (va vb : Int32) (hd : decode bytes pc = .ok (.ifCond .eq o, 3)) (h1 : decode bytes pc2 = .ok (.iconst i1, 1)) (h2 : decode bytes (pc2 + 1) = .ok (.goto o2, 3)) (h3 : decode bytes pc' = .ok (.iconst i3, 1)) (e1 : Int32.ofInt i1 = va) (e3 : Int32.ofInt i3 = vb)
    (hr : J pe Ls (.int (if (x = y) then vb else va) :: S) G k sl) (ho : 0 ≤ (pc : Int) + o := by decide) (hp : ((pc : Int) + o).toNat = pc' := by decide) (hp2 : pc + 3 = pc2 := by rfl) (ho2 : 0 ≤ ((pc2 + 1 : Nat) : Int) + o2 := by decide) (hp3 : (((pc2 + 1 : Nat) : Int) + o2).toNat = pe := by decide) (hp4 : pc' + 1 = pe := by rfl) : J pc Ls (.int (XT.cmpL x y) :: S) G k sl := by
  refine W.ifl_eq (pc' := pc') (pc2 := pc2) hd (fun q => ?_) (fun q => ?_) ho hp hp2
  · rw [if_pos q] at hr
    exact W.iconst vb h3 e3 hr hp4
  · rw [if_neg q] at hr
    exact W.iconst va h1 e1 (W.goto h2 hr ho2 hp3) rfl
theorem Walk.dia_if_ne (W : Walk fl tab sig l Z a0 n0 ol own nm bytes maxL ret R Q J) {x : Int32} {o i1 o2 i3 : Int} {pc2 pe : Nat} (va vb : Int32) (hd : decode bytes pc = .ok (.ifCond .ne o, 3)) (h1 : decode bytes pc2 = .ok (.iconst i1, 1)) (h2 : decode bytes (pc2 + 1) = .ok (.goto o2, 3)) (h3 : decode bytes pc' = .ok (.iconst i3, 1)) (e1 : Int32.ofInt i1 = va) (e3 : Int32.ofInt i3 = vb)
    (hr : J pe Ls (.int (if (x = 0) then va else vb) :: S) G k sl) (ho : 0 ≤ (pc : Int) + o := by decide) (hp : ((pc : Int) + o).toNat = pc' := by decide) (hp2 : pc + 3 = pc2 := by rfl) (ho2 : 0 ≤ ((pc2 + 1 : Nat) : Int) + o2 := by decide) (hp3 : (((pc2 + 1 : Nat) : Int) + o2).toNat = pe := by decide) (hp4 : pc' + 1 = pe := by rfl) : J pc Ls (.int x :: S) G k sl := by
  refine W.if_ne (pc' := pc') (pc2 := pc2) hd (fun q => ?_) (fun q => ?_) ho hp hp2
  · rw [if_pos q] at hr
    exact W.iconst va h1 e1 (W.goto h2 hr ho2 hp3) rfl
  · rw [if_neg q] at hr
    exact W.iconst vb h3 e3 hr hp4
theorem Walk.dia_icmp_ne (W : Walk fl tab sig l Z a0 n0 ol own nm bytes maxL ret R Q J) {x y : Int32} {o i1 o2 i3 : Int} {pc2 pe : Nat} (va vb : Int32) (hd : decode bytes pc = .ok (.if_icmp .ne o, 3)) (h1 : decode bytes pc2 = .ok (.iconst i1, 1)) (h2 : decode bytes (pc2 + 1) = .ok (.goto o2, 3)) (h3 : decode bytes pc' = .ok (.iconst i3, 1)) (e1 : Int32.ofInt i1 = va) (e3 : Int32.ofInt i3 = vb)
    (hr : J pe Ls (.int (if (x = y) then va else vb) :: S) G k sl) (ho : 0 ≤ (pc : Int) + o := by decide) (hp : ((pc : Int) + o).toNat = pc' := by decide) (hp2 : pc + 3 = pc2 := by rfl) (ho2 : 0 ≤ ((pc2 + 1 : Nat) : Int) + o2 := by decide) (hp3 : (((pc2 + 1 : Nat) : Int) + o2).toNat = pe := by decide) (hp4 : pc' + 1 = pe := by rfl) : J pc Ls (.int y :: .int x :: S) G k sl := by
  refine W.icmp_ne (pc' := pc') (pc2 := pc2) hd (fun q => ?_) (fun q => ?_) ho hp hp2
  · rw [if_pos q] at hr
    exact W.iconst va h1 e1 (W.goto h2 hr ho2 hp3) rfl
  · rw [if_neg q] at hr
    exact W.iconst vb h3 e3 hr hp4
theorem Walk.dia_ifl_ne (W : Walk fl tab sig l Z a0 n0 ol own nm bytes maxL ret R Q J) {x y : Int64} {o i1 o2 i3 : Int} {pc2 pe : Nat} (va vb : Int32) (hd : decode bytes pc = .ok (.ifCond .ne o, 3)) (h1 : decode bytes pc2 = .ok (.iconst i1, 1)) (h2 : decode bytes (pc2 + 1) = .ok (.goto o2, 3)) (h3 : decode bytes pc' = .ok (.iconst i3, 1)) (e1 : Int32.ofInt i1 = va) (e3 : Int32.ofInt i3 = vb)
    (hr : J pe Ls (.int (if (x = y) then va else vb) :: S) G k sl) (ho : 0 ≤ (pc : Int) + o := by decide) (hp : ((pc : Int) + o).toNat = pc' := by decide) (hp2 : pc + 3 = pc2 := by rfl) (ho2 : 0 ≤ ((pc2 + 1 : Nat) : Int) + o2 := by decide) (hp3 : (((pc2 + 1 : Nat) : Int) + o2).toNat = pe := by decide) (hp4 : pc' + 1 = pe := by rfl) : J pc Ls (.int (XT.cmpL x y) :: S) G k sl := by
  refine W.ifl_ne (pc' := pc') (pc2 := pc2) hd (fun q => ?_) (fun q => ?_) ho hp hp2
  · rw [if_pos q] at hr
    exact W.iconst va h1 e1 (W.goto h2 hr ho2 hp3) rfl
  · rw [if_neg q] at hr
    exact W.iconst vb h3 e3 hr hp4
theorem Walk.dia_if_lt (W : Walk fl tab sig l Z a0 n0 ol own nm bytes maxL ret R Q J) {x : Int32} {o i1 o2 i3 : Int} {pc2 pe : Nat} (va vb : Int32) (hd : decode bytes pc = .ok (.ifCond .lt o, 3)) (h1 : decode bytes pc2 = .ok (.iconst i1, 1)) (h2 : decode bytes (pc2 + 1) = .ok (.goto o2, 3)) (h3 : decode bytes pc' = .ok (.iconst i3, 1)) (e1 : Int32.ofInt i1 = va) (e3 : Int32.ofInt i3 = vb)
    (hr : J pe Ls (.int (if (x < 0) then vb else va) :: S) G k sl) (ho : 0 ≤ (pc : Int) + o := by decide) (hp : ((pc : Int) + o).toNat = pc' := by decide) (hp2 : pc + 3 = pc2 := by rfl) (ho2 : 0 ≤ ((pc2 + 1 : Nat) : Int) + o2 := by decide) (hp3 : (((pc2 + 1 : Nat) : Int) + o2).toNat = pe := by decide) (hp4 : pc' + 1 = pe := by rfl) : J pc Ls (.int x :: S) G k sl := by
  refine W.if_lt (pc' := pc') (pc2 := pc2) hd (fun q => ?_) (fun q => ?_) ho hp hp2
  · rw [if_pos q] at hr
    exact W.iconst vb h3 e3 hr hp4
  · rw [if_neg q] at hr
    exact W.iconst va h1 e1 (W.goto h2 hr ho2 hp3) rfl
theorem Walk.dia_icmp_lt (W : Walk fl tab sig l Z a0 n0 ol own nm bytes maxL ret R Q J) {x y : Int32} {o i1 o2 i3 : Int} {pc2 pe : Nat} (va vb : Int32) (hd : decode bytes pc = .ok (.if_icmp .lt o, 3)) (h1 : decode bytes pc2 = .ok (.iconst i1, 1)) (h2 : decode bytes (pc2 + 1) = .ok (.goto o2, 3)) (h3 : decode bytes pc' = .ok (.iconst i3, 1)) (e1 : Int32.ofInt i1 = va) (e3 : Int32.ofInt i3 = vb)
    (hr : J pe Ls (.int (if (x < y) then vb else va) :: S) G k sl) (ho : 0 ≤ (pc : Int) + o := by decide) (hp : ((pc : Int) + o).toNat = pc' := by decide) (hp2 : pc + 3 = pc2 := by rfl) (ho2 : 0 ≤ ((pc2 + 1 : Nat) : Int) + o2 := by decide) (hp3 : (((pc2 + 1 : Nat) : Int) + o2).toNat = pe := by decide) (hp4 : pc' + 1 = pe := by rfl) : J pc Ls (.int y :: .int x :: S) G k sl := by
  refine W.icmp_lt (pc' := pc') (pc2 := pc2) hd (fun q => ?_) (fun q => ?_) ho hp hp2
  · rw [if_pos q] at hr
    exact W.iconst vb h3 e3 hr hp4
  · rw [if_neg q] at hr
    exact W.iconst va h1 e1 (W.goto h2 hr ho2 hp3) rfl
theorem Walk.dia_ifl_lt (W : Walk fl tab sig l Z a0 n0 ol own nm bytes maxL ret R Q J) {x y : Int64} {o i1 o2 i3 : Int} {pc2 pe : Nat} (va vb : Int32) (hd : decode bytes pc = .ok (.ifCond .lt o, 3)) (h1 : decode bytes pc2 = .ok (.iconst i1, 1)) (h2 : decode bytes (pc2 + 1) = .ok (.goto o2, 3)) (h3 : decode bytes pc' = .ok (.iconst i3, 1)) (e1 : Int32.ofInt i1 = va) (e3 : Int32.ofInt i3 = vb)
    (hr : J pe Ls (.int (if (x < y) then vb else va) :: S) G k sl) (ho : 0 ≤ (pc : Int) + o := by decide) (hp : ((pc : Int) + o).toNat = pc' := by decide) (hp2 : pc + 3 = pc2 := by rfl) (ho2 : 0 ≤ ((pc2 + 1 : Nat) : Int) + o2 := by decide) (hp3 : (((pc2 + 1 : Nat) : Int) + o2).toNat = pe := by decide) (hp4 : pc' + 1 = pe := by rfl) : J pc Ls (.int (XT.cmpL x y) :: S) G k sl := by
  refine W.ifl_lt (pc' := pc') (pc2 := pc2) hd (fun q => ?_) (fun q => ?_) ho hp hp2
  · rw [if_pos q] at hr
    exact W.iconst vb h3 e3 hr hp4
  · rw [if_neg q] at hr
    exact W.iconst va h1 e1 (W.goto h2 hr ho2 hp3) rfl
theorem Walk.dia_if_ge (W : Walk fl tab sig l Z a0 n0 ol own nm bytes maxL ret R Q J) {x : Int32} {o i1 o2 i3 : Int} {pc2 pe : Nat} (va vb : Int32) (hd : decode bytes pc = .ok (.ifCond .ge o, 3)) (h1 : decode bytes pc2 = .ok (.iconst i1, 1)) (h2 : decode bytes (pc2 + 1) = .ok (.goto o2, 3)) (h3 : decode bytes pc' = .ok (.iconst i3, 1)) (e1 : Int32.ofInt i1 = va) (e3 : Int32.ofInt i3 = vb)
    (hr : J pe Ls (.int (if (x < 0) then va else vb) :: S) G k sl) (ho : 0 ≤ (pc : Int) + o := by decide) (hp : ((pc : Int) + o).toNat = pc' := by decide) (hp2 : pc + 3 = pc2 := by rfl) (ho2 : 0 ≤ ((pc2 + 1 : Nat) : Int) + o2 := by decide) (hp3 : (((pc2 + 1 : Nat) : Int) + o2).toNat = pe := by decide) (hp4 : pc' + 1 = pe := by rfl) : J pc Ls (.int x :: S) G k sl := by
  refine W.if_ge (pc' := pc') (pc2 := pc2) hd (fun q => ?_) (fun q => ?_) ho hp hp2
  · rw [if_pos q] at hr
    exact W.iconst va h1 e1 (W.goto h2 hr ho2 hp3) rfl
  · rw [if_neg q] at hr
    exact W.iconst vb h3 e3 hr hp4
theorem Walk.dia_icmp_ge (W : Walk fl tab sig l Z a0 n0 ol own nm bytes maxL ret R Q J) {x y : Int32} {o i1 o2 i3 : Int} {pc2 pe : Nat} (va vb : Int32) (hd : decode bytes pc = .ok (.if_icmp .ge o, 3)) (h1 : decode bytes pc2 = .ok (.iconst i1, 1)) (h2 : decode bytes (pc2 + 1) = .ok (.goto o2, 3)) (h3 : decode bytes pc' = .ok (.iconst i3, 1)) (e1 : Int32.ofInt i1 = va) (e3 : Int32.ofInt i3 = vb)
    (hr : J pe Ls (.int (if (x < y) then va else vb) :: S) G k sl) (ho : 0 ≤ (pc : Int) + o := by decide) (hp : ((pc : Int) + o).toNat = pc' := by decide) (hp2 : pc + 3 = pc2 := by rfl) (ho2 : 0 ≤ ((pc2 + 1 : Nat) : Int) + o2 := by decide) (hp3 : (((pc2 + 1 : Nat) : Int) + o2).toNat = pe := by decide) (hp4 : pc' + 1 = pe := by rfl) : J pc Ls (.int y :: .int x :: S) G k sl := by
  refine W.icmp_ge (pc' := pc') (pc2 := pc2) hd (fun q => ?_) (fun q => ?_) ho hp hp2
  · rw [if_pos q] at hr
    exact W.iconst va h1 e1 (W.goto h2 hr ho2 hp3) rfl
  · rw [if_neg q] at hr
    exact W.iconst vb h3 e3 hr hp4
theorem Walk.dia_ifl_ge (W : Walk fl tab sig l Z a0 n0 ol own nm bytes maxL ret R Q J) {x y : Int64} {o i1 o2 i3 : Int} {pc2 pe : Nat} (va vb : Int32) (hd : decode bytes pc = .ok (.ifCond .ge o, 3)) (h1 : decode bytes pc2 = .ok (.iconst i1, 1)) (h2 : decode bytes (pc2 + 1) = .ok (.goto o2, 3)) (h3 : decode bytes pc' = .ok (.iconst i3, 1)) (e1 : Int32.ofInt i1 = va) (e3 : Int32.ofInt i3 = vb)
    (hr : J pe Ls (.int (if (x < y) then va else vb) :: S) G k sl) (ho : 0 ≤ (pc : Int) + o := by decide) (hp : ((pc : Int) + o).toNat = pc' := by decide) (hp2 : pc + 3 = pc2 := by rfl) (ho2 : 0 ≤ ((pc2 + 1 : Nat) : Int) + o2 := by decide) (hp3 : (((pc2 + 1 : Nat) : Int) + o2).toNat = pe := by decide) (hp4 : pc' + 1 = pe := by rfl) : J pc Ls (.int (XT.cmpL x y) :: S) G k sl := by
  refine W.ifl_ge (pc' := pc') (pc2 := pc2) hd (fun q => ?_) (fun q => ?_) ho hp hp2
  · rw [if_pos q] at hr
    exact W.iconst va h1 e1 (W.goto h2 hr ho2 hp3) rfl
  · rw [if_neg q] at hr
    exact W.iconst vb h3 e3 hr hp4
theorem Walk.dia_if_gt (W : Walk fl tab sig l Z a0 n0 ol own nm bytes maxL ret R Q J) {x : Int32} {o i1 o2 i3 : Int} {pc2 pe : Nat} (va vb : Int32) (hd : decode bytes pc = .ok (.ifCond .gt o, 3)) (h1 : decode bytes pc2 = .ok (.iconst i1, 1)) (h2 : decode bytes (pc2 + 1) = .ok (.goto o2, 3)) (h3 : decode bytes pc' = .ok (.iconst i3, 1)) (e1 : Int32.ofInt i1 = va) (e3 : Int32.ofInt i3 = vb)
    (hr : J pe Ls (.int (if (0 < x) then vb else va) :: S) G k sl) (ho : 0 ≤ (pc : Int) + o := by decide) (hp : ((pc : Int) + o).toNat = pc' := by decide) (hp2 : pc + 3 = pc2 := by rfl) (ho2 : 0 ≤ ((pc2 + 1 : Nat) : Int) + o2 := by decide) (hp3 : (((pc2 + 1 : Nat) : Int) + o2).toNat = pe := by decide) (hp4 : pc' + 1 = pe := by rfl) : J pc Ls (.int x :: S) G k sl := by
  refine W.if_gt (pc' := pc') (pc2 := pc2) hd (fun q => ?_) (fun q => ?_) ho hp hp2
  · rw [if_pos q] at hr
    exact W.iconst vb h3 e3 hr hp4
  · rw [if_neg q] at hr
    exact W.iconst va h1 e1 (W.goto h2 hr ho2 hp3) rfl
theorem Walk.dia_icmp_gt (W : Walk fl tab sig l Z a0 n0 ol own nm bytes maxL ret R Q J) {x y : Int32} {o i1 o2 i3 : Int} {pc2 pe : Nat} (va vb : Int32) (hd : decode bytes pc = .ok (.if_icmp .gt o, 3)) (h1 : decode bytes pc2 = .ok (.iconst i1, 1)) (h2 : decode bytes (pc2 + 1) = .ok (.goto o2, 3)) (h3 : decode bytes pc' = .ok (.iconst i3, 1)) (e1 : Int32.ofInt i1 = va) (e3 : Int32.ofInt i3 = vb)
    (hr : J pe Ls (.int (if (y < x) then vb else va) :: S) G k sl) (ho : 0 ≤ (pc : Int) + o := by decide) (hp : ((pc : Int) + o).toNat = pc' := by decide) (hp2 : pc + 3 = pc2 := by rfl) (ho2 : 0 ≤ ((pc2 + 1 : Nat) : Int) + o2 := by decide) (hp3 : (((pc2 + 1 : Nat) : Int) + o2).toNat = pe := by decide) (hp4 : pc' + 1 = pe := by rfl) : J pc Ls (.int y :: .int x :: S) G k sl := by
  refine W.icmp_gt (pc' := pc') (pc2 := pc2) hd (fun q => ?_) (fun q => ?_) ho hp hp2
  · rw [if_pos q] at hr
    exact W.iconst vb h3 e3 hr hp4
  · rw [if_neg q] at hr
    exact W.iconst va h1 e1 (W.goto h2 hr ho2 hp3) rfl
theorem Walk.dia_ifl_gt (W : Walk fl tab sig l Z a0 n0 ol own nm bytes maxL ret R Q J) {x y : Int64} {o i1 o2 i3 : Int} {pc2 pe : Nat} (va vb : Int32) (hd : decode bytes pc = .ok (.ifCond .gt o, 3)) (h1 : decode bytes pc2 = .ok (.iconst i1, 1)) (h2 : decode bytes (pc2 + 1) = .ok (.goto o2, 3)) (h3 : decode bytes pc' = .ok (.iconst i3, 1)) (e1 : Int32.ofInt i1 = va) (e3 : Int32.ofInt i3 = vb)
    (hr : J pe Ls (.int (if (y < x) then vb else va) :: S) G k sl) (ho : 0 ≤ (pc : Int) + o := by decide) (hp : ((pc : Int) + o).toNat = pc' := by decide) (hp2 : pc + 3 = pc2 := by rfl) (ho2 : 0 ≤ ((pc2 + 1 : Nat) : Int) + o2 := by decide) (hp3 : (((pc2 + 1 : Nat) : Int) + o2).toNat = pe := by decide) (hp4 : pc' + 1 = pe := by rfl) : J pc Ls (.int (XT.cmpL x y) :: S) G k sl := by
  refine W.ifl_gt (pc' := pc') (pc2 := pc2) hd (fun q => ?_) (fun q => ?_) ho hp hp2
  · rw [if_pos q] at hr
    exact W.iconst vb h3 e3 hr hp4
  · rw [if_neg q] at hr
    exact W.iconst va h1 e1 (W.goto h2 hr ho2 hp3) rfl
theorem Walk.dia_if_le (W : Walk fl tab sig l Z a0 n0 ol own nm bytes maxL ret R Q J) {x : Int32} {o i1 o2 i3 : Int} {pc2 pe : Nat} (va vb : Int32) (hd : decode bytes pc = .ok (.ifCond .le o, 3)) (h1 : decode bytes pc2 = .ok (.iconst i1, 1)) (h2 : decode bytes (pc2 + 1) = .ok (.goto o2, 3)) (h3 : decode bytes pc' = .ok (.iconst i3, 1)) (e1 : Int32.ofInt i1 = va) (e3 : Int32.ofInt i3 = vb)
    (hr : J pe Ls (.int (if (0 < x) then va else vb) :: S) G k sl) (ho : 0 ≤ (pc : Int) + o := by decide) (hp : ((pc : Int) + o).toNat = pc' := by decide) (hp2 : pc + 3 = pc2 := by rfl) (ho2 : 0 ≤ ((pc2 + 1 : Nat) : Int) + o2 := by decide) (hp3 : (((pc2 + 1 : Nat) : Int) + o2).toNat = pe := by decide) (hp4 : pc' + 1 = pe := by rfl) : J pc Ls (.int x :: S) G k sl := by
  refine W.if_le (pc' := pc') (pc2 := pc2) hd (fun q => ?_) (fun q => ?_) ho hp hp2
  · rw [if_pos q] at hr
    exact W.iconst va h1 e1 (W.goto h2 hr ho2 hp3) rfl
  · rw [if_neg q] at hr
    exact W.iconst vb h3 e3 hr hp4
theorem Walk.dia_icmp_le (W : Walk fl tab sig l Z a0 n0 ol own nm bytes maxL ret R Q J) {x y : Int32} {o i1 o2 i3 : Int} {pc2 pe : Nat} (va vb : Int32) (hd : decode bytes pc = .ok (.if_icmp .le o, 3)) (h1 : decode bytes pc2 = .ok (.iconst i1, 1)) (h2 : decode bytes (pc2 + 1) = .ok (.goto o2, 3)) (h3 : decode bytes pc' = .ok (.iconst i3, 1)) (e1 : Int32.ofInt i1 = va) (e3 : Int32.ofInt i3 = vb)
    (hr : J pe Ls (.int (if (y < x) then va else vb) :: S) G k sl) (ho : 0 ≤ (pc : Int) + o := by decide) (hp : ((pc : Int) + o).toNat = pc' := by decide) (hp2 : pc + 3 = pc2 := by rfl) (ho2 : 0 ≤ ((pc2 + 1 : Nat) : Int) + o2 := by decide) (hp3 : (((pc2 + 1 : Nat) : Int) + o2).toNat = pe := by decide) (hp4 : pc' + 1 = pe := by rfl) : J pc Ls (.int y :: .int x :: S) G k sl := by
  refine W.icmp_le (pc' := pc') (pc2 := pc2) hd (fun q => ?_) (fun q => ?_) ho hp hp2
  · rw [if_pos q] at hr
    exact W.iconst va h1 e1 (W.goto h2 hr ho2 hp3) rfl
  · rw [if_neg q] at hr
    exact W.iconst vb h3 e3 hr hp4
theorem Walk.dia_ifl_le (W : Walk fl tab sig l Z a0 n0 ol own nm bytes maxL ret R Q J) {x y : Int64} {o i1 o2 i3 : Int} {pc2 pe : Nat} (va vb : Int32) (hd : decode bytes pc = .ok (.ifCond .le o, 3)) (h1 : decode bytes pc2 = .ok (.iconst i1, 1)) (h2 : decode bytes (pc2 + 1) = .ok (.goto o2, 3)) (h3 : decode bytes pc' = .ok (.iconst i3, 1)) (e1 : Int32.ofInt i1 = va) (e3 : Int32.ofInt i3 = vb)
    (hr : J pe Ls (.int (if (y < x) then va else vb) :: S) G k sl) (ho : 0 ≤ (pc : Int) + o := by decide) (hp : ((pc : Int) + o).toNat = pc' := by decide) (hp2 : pc + 3 = pc2 := by rfl) (ho2 : 0 ≤ ((pc2 + 1 : Nat) : Int) + o2 := by decide) (hp3 : (((pc2 + 1 : Nat) : Int) + o2).toNat = pe := by decide) (hp4 : pc' + 1 = pe := by rfl) : J pc Ls (.int (XT.cmpL x y) :: S) G k sl := by
  refine W.ifl_le (pc' := pc') (pc2 := pc2) hd (fun q => ?_) (fun q => ?_) ho hp hp2
  · rw [if_pos q] at hr
    exact W.iconst va h1 e1 (W.goto h2 hr ho2 hp3) rfl
  · rw [if_neg q] at hr
    exact W.iconst vb h3 e3 hr hp4
end Steps
section Heap
variable {fl : Bool} {tab : List Jvm.Cond} {sig : Sig} {l : Launch} {Z : State} {a0 : Array Value} {n0 : Nat} {ol : List Addr} {own nm : String} {bytes : ByteArray} {maxL : Nat} {ret : Option FieldType} {R : Room} {Q : Post} {J : JT} {pc pc' : Nat} {Ls : List Slot} {S : List Value} {G : Ghost} {k sl : Nat} {h h' : Heap} {a b : Addr} {o : Obj} {v w : Value} {j : Nat} {ad ad' : Ad}
theorem ObjAt.other {sl' : Nat} (W : Wr h h' a sl' v) (hne : b ≠ a) (F : ObjAt sig Z h ad b o) : ObjAt sig Z h' ad b o := by
  obtain ⟨t, vs⟩ := o
  cases t with
  | inl ci =>
    intro C n fs hc
    obtain ⟨h2, h3, h4⟩ := F C n fs hc
    exact ⟨h2.wr W, h3, fun i O nm d ty v hf hv => Fld.other W (h4 i O nm d ty v hf hv) (Or.inl hne)⟩
  | inr ty =>
    obtain ⟨c, h1, h2⟩ := F
    exact ⟨c, h1.other W hne, h2⟩
theorem ObjAt.ext (E : Ext h h') (F : ObjAt sig Z h ad b o) : ObjAt sig Z h' ad b o := by
  obtain ⟨t, vs⟩ := o
  cases t with
  | inl ci =>
    intro C n fs hc
    obtain ⟨h2, h3, h4⟩ := F C n fs hc
    exact ⟨h2.ext E, h3, fun i O nm d ty v hf hv => (h4 i O nm d ty v hf hv).ext E⟩
  | inr ty =>
    obtain ⟨c, h1, h2⟩ := F
    exact ⟨c, h1.ext E, h2⟩
theorem ObjAt.agr {n : Nat} (A : Agr n ad ad') (hs : ∀ v ∈ o.2, sc n v = true) (F : ObjAt sig Z h ad b o) : ObjAt sig Z h ad' b o := by
  obtain ⟨t, vs⟩ := o
  cases t with
  | inl ci =>
    intro C n fs hc
    obtain ⟨h2, h3, h4⟩ := F C n fs hc
    exact ⟨h2, h3, fun i O nm d ty v hf hv => by rw [rv_agr A (hs v (List.mem_of_getElem? hv))]; exact h4 i O nm d ty v hf hv⟩
  | inr ty =>
    obtain ⟨c, h1, h2, h3, h4, h5⟩ := F
    refine ⟨c, h1, ?_, h3, fun v hv => by rw [rv_agr A (hs v hv)]; exact h4 v hv, h5⟩
    rw [h2]; exact List.map_congr_left fun v hv => (rv_agr A (hs v hv)).symm
theorem Rep.write {sl' : Nat} {o o' : Obj} (hG : Rep sig Z n0 ol ad h G) (hj : ol.length ≤ j) (W : Wr h h' (ad j) sl' v) (hO : G[j]? = some o) (ho : kn sig o = true) (hk : kn sig o' = true → kn sig o = true) (hN : ObjAt sig Z h' ad (ad j) o') (hs : ∀ v ∈ o'.2, sc G.length v = true) : Rep sig Z n0 ol ad h' (G.set j o') := by
  obtain ⟨rfl, h2, h3, h4, h5, h6, h7⟩ := hG
  have hjl : j < G.length := (List.getElem?_eq_some_iff.mp hO).1
  obtain ⟨-, hj2, hj3⟩ := h5 j o hO ho
  have hge := hj2 hj
  have kn' : ∀ k o2, (G.set j o')[k]? = some o2 → kn sig o2 = true → ∃ o3, G[k]? = some o3 ∧ kn sig o3 = true := fun k o2 hk2 hkn => by
    by_cases q : k = j
    · subst q; exact ⟨o, hO, ho⟩
    · rw [List.getElem?_set_ne (fun z => q z.symm)] at hk2; exact ⟨o2, hk2, hkn⟩
  refine ⟨rfl, ⟨by rw [W.size]; exact h2.1, fun a c hc => ?_⟩, h3, by rw [List.length_set]; exact h4, fun k o2 hk2 hkn => ?_, fun k k' o2 o2' e1 e2 n1 n2 e => ?_, fun k o2 hk2 v hv => ?_⟩
  · obtain ⟨c', e1, -, -, -, e5, -⟩ := wr_at W (h2.2 a c hc)
    have : Nat.lt a Z.heap.size := (Array.getElem?_eq_some_iff.mp hc).1
    rw [e1, e5 (Nat.ne_of_lt (Nat.lt_of_lt_of_le this hge))]
  · by_cases q : k = j
    · subst q
      rw [List.getElem?_set_self hjl] at hk2
      cases hk2
      exact ⟨hN, hj2, by rw [W.size]; exact hj3⟩
    · rw [List.getElem?_set_ne (fun z => q z.symm)] at hk2
      obtain ⟨f1, f2, f3⟩ := h5 k o2 hk2 hkn
      exact ⟨ObjAt.other W (fun z => q (h6 k j o2 o hk2 hO hkn ho z)) f1, f2, by rw [W.size]; exact f3⟩
  · obtain ⟨o3, g1, g2⟩ := kn' k o2 e1 n1
    obtain ⟨o4, g3, g4⟩ := kn' k' o2' e2 n2
    exact h6 k k' o3 o4 g1 g3 g2 g4 e
  · rw [List.length_set]
    by_cases q : k = j
    · subst q
      rw [List.getElem?_set_self hjl] at hk2
      cases hk2
      exact hs v hv
    · rw [List.getElem?_set_ne (fun z => q z.symm)] at hk2
      exact h7 k o2 hk2 v hv
def upd (ad : Ad) (n : Nat) (a : Addr) : Ad := fun k => if k = n then a else ad k
theorem upd_agr {n : Nat} : Agr n ad (upd ad n a) := fun k hk => by unfold upd; rw [if_neg (by omega)]
theorem upd_self {n : Nat} : upd ad n a n = a := by unfold upd; rw [if_pos rfl]
/-- one object more: known and new, or of no account -/
theorem Rep.push {o' : Obj} (hG : Rep sig Z n0 ol ad h G) (E : Ext h h') (hnew : kn sig o' = true → Nat.le h.size a ∧ Nat.lt a h'.size ∧ ObjAt sig Z h' ad a o') (hs : ∀ v ∈ o'.2, sc G.length v = true) : Rep sig Z n0 ol (upd ad G.length a) h' (G ++ [o']) := by
  obtain ⟨rfl, h2, h3, h4, h5, h6, h7⟩ := hG
  have look : ∀ k o2, (G ++ [o'])[k]? = some o2 → (k < G.length ∧ G[k]? = some o2) ∨ (k = G.length ∧ o2 = o') := fun k o2 hk => by
    rcases Nat.lt_or_ge k G.length with q | q
    · rw [List.getElem?_append_left q] at hk; exact Or.inl ⟨q, hk⟩
    · rw [List.getElem?_append_right q] at hk
      cases hq : k - G.length with
      | zero => rw [hq] at hk; cases hk; exact Or.inr ⟨by omega, rfl⟩
      | succ n => rw [hq] at hk; cases hk
  have old : ∀ k, k < G.length → upd ad G.length a k = ad k := fun k hk => upd_agr k hk
  refine ⟨rfl, ⟨Nat.le_trans h2.1 E.1, fun a c hc => E.2 a c (h2.2 a c hc)⟩, fun k b hk => ?_, by simp; omega, fun k o2 hk hkn => ?_, fun k k' o2 o2' e1 e2 n1 n2 e => ?_, fun k o2 hk v hv => ?_⟩
  · have hl : k < ol.length := (List.getElem?_eq_some_iff.mp hk).1
    rw [old k (by omega)]; exact h3 k b hk
  · rcases look k o2 hk with ⟨q1, q2⟩ | ⟨q1, q2⟩
    · obtain ⟨f1, f2, f3⟩ := h5 k o2 q2 hkn
      rw [old k q1]
      exact ⟨(f1.ext E).agr upd_agr (h7 k o2 q2), f2, Nat.lt_of_lt_of_le f3 E.1⟩
    · subst q1 q2
      obtain ⟨g1, g2, g3⟩ := hnew hkn
      rw [upd_self]
      exact ⟨g3.agr upd_agr hs, fun _ => Nat.le_trans h2.1 g1, g2⟩
  · rcases look k o2 e1 with ⟨q1, q2⟩ | ⟨q1, q2⟩ <;> rcases look k' o2' e2 with ⟨r1, r2⟩ | ⟨r1, r2⟩
    · rw [old k q1, old k' r1] at e; exact h6 k k' o2 o2' q2 r2 n1 n2 e
    · subst r1 r2
      rw [old k q1, upd_self] at e
      have := (h5 k o2 q2 n1).2.2
      rw [e] at this
      exact absurd this (Nat.not_lt.mpr (hnew n2).1)
    · subst q1 q2
      rw [old k' r1, upd_self] at e
      have := (h5 k' o2' r2 n2).2.2
      rw [← e] at this
      exact absurd this (Nat.not_lt.mpr (hnew n1).1)
    · rw [q1, r1]
  · have hle : G.length ≤ (G ++ [o']).length := by simp
    rcases look k o2 hk with ⟨q1, q2⟩ | ⟨q1, q2⟩
    · exact sc_mono hle (h7 k o2 q2 v hv)
    · subst q2; exact sc_mono hle (hs v hv)
theorem fr_snoc {locs : List Loc} {sl' : Nat} (N : Fr n0 locs) (h : Nat.le n0 a) : Fr n0 (locs ++ [⟨a, sl'⟩]) := N.app fun y hy => by cases List.mem_singleton.mp hy; exact h
theorem Walk.getfield (W : Walk fl tab sig l Z a0 n0 ol own nm bytes maxL ret R Q J) {idx ci n : Nat} (i : Nat) {C O R0 f d host : String} {ty : FieldType} {fs : List Fd} {vs : List Value} (hd : decode bytes pc = .ok (.getfield idx, 3))
    (hlink : Jvm.Cond.fieldLink own idx R0 f d ∈ tab ∨ Jvm.Cond.fieldLinkNest own idx R0 f d host ∈ tab) (hvia : R0 = O ∨ Jvm.Cond.sameField R0 O f d ∈ tab) (hO : G[j]? = some (.inl ci, vs)) (hc : sig[ci]? = some (C, n, fs)) (hf : fs[i]? = some (O, f, d, ty)) (hv : vs[i]? = some v)
    (hr : J pc' Ls (v :: S) G k sl) (hp : pc + 3 = pc' := by rfl) : J pc Ls (.ref j :: S) G k sl := by
  obtain ⟨ad0, N0, p, e, s, m, args, below, meth, c, rfl, hx, hby, hml, hret, hlk, hnm, hZ0, hown0, hw, hS⟩ := W
  subst hp
  intro vm0 n1 ad T locs X hB hn1 hA hN hG hF
  have hZ : Z.Warmed39 (s.setVm vm0).vm := State.Warmed39.trans hZ0 (isOfB hB)
  have hown : (s.setVm vm0).vm.findClass own = some m.cls := by show vm0.findClass own = _; rw [(isOfB hB).alike.findClass]; exact hown0
  obtain ⟨E, hlen, F⟩ := (hG.2.2.2.2.1 j _ hO (by simp [kn, hc])).1 C n fs hc
  have via : Via Z R0 O f d := hvia.elim (fun q => q ▸ Via.refl) (fun q => Via.of (hw _ q))
  obtain ⟨T', X', e', st⟩ := getF X hx hZ hown (host := host) (hlink.imp (hw _) (hw _)) via rfl (F i O f d ty v hf hv) (g := mkF m pc (Ls.map (rs ad)).toArray (.ref (ad j) :: S.map (rv ad))) rfl rfl (Jvm.hb hby hd)
  obtain ⟨t, o, st2, h⟩ := hr vm0 n1 ad T' locs X' hB (by rw [e']; exact hn1) hA hN (by rw [e']; exact hG) hF
  exact ⟨t, o, st _ st2, h⟩
theorem Walk.putfield (W : Walk fl tab sig l Z a0 n0 ol own nm bytes maxL ret R Q J) {idx ci n : Nat} (i : Nat) {C O R0 f d host : String} {ty : FieldType} {fs : List Fd} {vs : List Value} (hd : decode bytes pc = .ok (.putfield idx, 3))
    (hlink : Jvm.Cond.fieldLink own idx R0 f d ∈ tab ∨ Jvm.Cond.fieldLinkNest own idx R0 f d host ∈ tab) (hvia : R0 = O ∨ Jvm.Cond.sameField R0 O f d ∈ tab) (hO : G[j]? = some (.inl ci, vs)) (hol : Nat.ble ol.length j = true) (hc : sig[ci]? = some (C, n, fs)) (hf : fs[i]? = some (O, f, d, ty))
    (L : Jvm.Cond.lays C O f d ∈ tab ∨ (Jvm.Cond.laysFinal C O f d ∈ tab ∧ own = O ∧ nm = "<init>")) (hn : ∀ ad, narrow ty (rv ad v) = rv ad v) (hfit : ∀ ad, fits ty (rv ad v) = true) (hsc : sc G.length v = true)
    (hr : J pc' Ls S (G.set j (.inl ci, vs.set i v)) k sl) (hp : pc + 3 = pc' := by rfl) : J pc Ls (v :: .ref j :: S) G k sl := by
  obtain ⟨ad0, N0, p, e, s, m, args, below, meth, c, rfl, hx, hby, hml, hret, hlk, rfl, hZ0, hown0, hw, hS⟩ := W
  subst hp
  intro vm0 n1 ad T locs X hB hn1 hA hN hG hF
  have hZ : Z.Warmed39 (s.setVm vm0).vm := State.Warmed39.trans hZ0 (isOfB hB)
  have hown : (s.setVm vm0).vm.findClass own = some m.cls := by show vm0.findClass own = _; rw [(isOfB hB).alike.findClass]; exact hown0
  have hkn : kn sig (.inl ci, vs) = true := by simp [kn, hc]
  obtain ⟨hOb, hge, hlt⟩ := hG.2.2.2.2.1 j _ hO hkn
  obtain ⟨E, hlen, F⟩ := hOb C n fs hc
  have via : Via Z R0 O f d := hvia.elim (fun q => q ▸ Via.refl) (fun q => Via.of (hw _ q))
  obtain ⟨s1, s2, s3⟩ := hS ci C n fs hc
  have hi : i < fs.length := (List.getElem?_eq_some_iff.mp hf).1
  have hv : vs[i]? = some vs[i] := List.getElem?_eq_getElem (by omega)
  have F1 := F i O f d ty _ hf hv
  obtain ⟨T', h', X', e', W', st⟩ := putF X hx hZ hown (host := host) (hlink.imp (hw _) (hw _)) via rfl F1 E (L.imp (hw _) fun q => ⟨hw _ q.1, q.2⟩) (hw _ s1) (s2 _ (List.mem_of_getElem? hf)).2 (hn ad) (hfit ad) (g := mkF m pc (Ls.map (rs ad)).toArray (rv ad v :: .ref (ad j) :: S.map (rv ad))) rfl rfl (Jvm.hb hby hd)
  have hN' : ObjAt sig Z h' ad (ad j) (.inl ci, vs.set i v) := by
    intro C' n' fs' hc'
    cases hc.symm.trans hc'
    refine ⟨E.wr W', by simp [hlen], fun i' O' f' d' ty' v' hf' hv' => ?_⟩
    by_cases q : i' = i
    · subst q
      cases hf.symm.trans hf'
      rw [List.getElem?_set_self (by omega)] at hv'
      cases hv'
      exact F1.same W'
    · rw [List.getElem?_set_ne (fun z => q z.symm)] at hv'
      refine Fld.other W' (F i' O' f' d' ty' v' hf' hv') (Or.inr ?_)
      have m1 := s2 _ (List.mem_of_getElem? hf)
      have m2 := s2 _ (List.mem_of_getElem? hf')
      refine slot_ne (a0 := a0) (C := C) (m2.1.imp (hw _) (hw _)) (m1.1.imp (hw _) (hw _)) (fun z => q ?_) m2.2 m1.2
      have g1 : (fs.map (·.2.1))[i]? = some f := by simp [hf]
      have g2 : (fs.map (·.2.1))[i']? = some f' := by simp [hf']
      have hi' : i' < fs.length := (List.getElem?_eq_some_iff.mp hf').1
      exact (List.getElem?_inj (by simpa using hi') s3).mp (g2.trans (by rw [g1]; exact congrArg some z))
  have hjo : ol.length ≤ j := Nat.le_of_ble_eq_true hol
  have hscv : ∀ w ∈ (vs.set i v), sc G.length w = true := fun w hw' => by
    rcases List.mem_or_eq_of_mem_set hw' with q | q
    · exact hG.2.2.2.2.2.2 j _ hO w q
    · rw [q]; exact hsc
  have hR := Rep.write (o' := (.inl ci, vs.set i v)) hG hjo W' hO hkn (fun _ => hkn) hN' hscv
  obtain ⟨t, o, st2, h⟩ := hr vm0 n1 ad T' _ X' hB (by rw [e', W'.size]; exact hn1) hA (by rw [List.length_set]; exact hN) (by rw [e']; exact hR) (fr_snoc hF (hge hjo))
  exact ⟨t, o, st _ st2, h⟩
/-- the frame behind a step that may have moved names on: the elder references are as they were -/
theorem frame_agr {n : Nat} (A : Agr n ad ad') {m : MethodId} (hs : (Ls.all (scS n) && S.all (sc n)) = true) : mkF m pc (Ls.map (rs ad')).toArray (S.map (rv ad')) = mkF m pc (Ls.map (rs ad)).toArray (S.map (rv ad)) := by
  rw [Bool.and_eq_true] at hs
  rw [maps_agr A hs.1, map_agr A hs.2]
theorem Walk.new (W : Walk fl tab sig l Z a0 n0 ol own nm bytes maxL ret R Q J) {idx n : Nat} (ci : Nat) {C : String} {fs : List Fd} {vs : List Value} (hd : decode bytes pc = .ok (.new idx, 3)) (hc : sig[ci]? = some (C, n, fs)) (w1 : Jvm.Cond.classLink own idx C ∈ tab) (w2 : Jvm.Cond.initialized C ∈ tab)
    (hvs : fs.map (fun f => defaultValue f.2.2.2) = vs) (hsc : (Ls.all (scS G.length) && S.all (sc G.length)) = true) (hk : k + 1 ≤ R.cells) (hsl : sl + n ≤ R.slots) (hr : J pc' Ls (.ref G.length :: S) (G ++ [(.inl ci, vs)]) (k + 1) (sl + n)) (hp : pc + 3 = pc' := by rfl) : J pc Ls S G k sl := by
  obtain ⟨ad0, N0, p, e, s, m, args, below, meth, c, rfl, hx, hby, hml, hret, hlk, hnm, hZ0, hown0, hw, hS⟩ := W
  subst hp hvs
  intro vm0 n1 ad T locs X hB hn1 hA hN hG hF
  have hZ : Z.Warmed39 (s.setVm vm0).vm := State.Warmed39.trans hZ0 (isOfB hB)
  have hown : (s.setVm vm0).vm.findClass own = some m.cls := by show vm0.findClass own = _; rw [(isOfB hB).alike.findClass]; exact hown0
  obtain ⟨s1, s2, s3⟩ := hS ci C n fs hc
  have wi := hw _ s1
  obtain ⟨T', h', X', e', E, EX, D, -, st⟩ := newO X hx hZ hown (hw _ w1) wi (hw _ w2) rfl (g := mkF m pc (Ls.map (rs ad)).toArray (S.map (rv ad))) rfl (Jvm.hb hby hd) hk hsl
  have hdef : ∀ ad (ty : FieldType), rv ad (defaultValue ty) = defaultValue ty := fun ad ty => by cases ty <;> rfl
  have hO : ObjAt sig Z h' ad T.heap.size (.inl ci, fs.map (fun f => defaultValue f.2.2.2)) := by
    intro C' n' fs' hc'
    cases hc.symm.trans hc'
    refine ⟨EX, by simp, fun i O f d ty v hf hv => ?_⟩
    have hv' : v = defaultValue ty := by simp [hf] at hv; exact hv.symm
    subst hv'
    rw [hdef]
    obtain ⟨q1, q2⟩ := s2 _ (List.mem_of_getElem? hf)
    exact D (q1.imp (hw _) (hw _)) q2
  have hR := Rep.push (a := T.heap.size) (o' := (.inl ci, fs.map (fun f => defaultValue f.2.2.2))) hG E (fun _ => ⟨Nat.le_refl _, EX.lt, hO⟩) (fun v hv => by
    obtain ⟨f, -, rfl⟩ := List.mem_map.mp hv
    cases f.2.2.2 <;> rfl)
  have hA' : Agr N0 ad0 (upd ad G.length T.heap.size) := hA.trans upd_agr hN
  obtain ⟨t, o, st2, h⟩ := hr vm0 n1 (upd ad G.length T.heap.size) T' locs X' hB (by rw [e']; exact Nat.le_trans hn1 E.1) hA' (by simp; omega) (by rw [e']; exact hR) hF
  refine ⟨t, o, st _ ?_, h⟩
  rw [Bool.and_eq_true] at hsc
  rw [List.map_cons, maps_agr upd_agr hsc.1, map_agr upd_agr hsc.2] at st2
  rw [show rv (upd ad G.length T.heap.size) (.ref G.length) = .ref T.heap.size from congrArg Value.ref upd_self] at st2
  exact st2
theorem Walk.anewarray (W : Walk fl tab sig l Z a0 n0 ol own nm bytes maxL ret R Q J) {idx : Nat} {C : String} {x : Int32} (N : Nat) {vs : List Value} (hd : decode bytes pc = .ok (.anewarray idx, 3)) (w1 : Jvm.Cond.classLink own idx C ∈ tab) (w2 : Jvm.Cond.arrayOver (.object C) ∈ tab)
    (hN : x.toInt = N) (hvs : List.replicate N Value.null = vs) (hb8 : N * 8 ≤ 536870912) (hsc : (Ls.all (scS G.length) && S.all (sc G.length)) = true) (hk : k + 1 ≤ R.cells) (hsl : sl + N ≤ R.slots)
    (hr : J pc' Ls (.ref G.length :: S) (G ++ [(.inr (.object C), vs)]) (k + 1) (sl + N)) (hp : pc + 3 = pc' := by rfl) : J pc Ls (.int x :: S) G k sl := by
  obtain ⟨ad0, N0, p, e, s, m, args, below, meth, c, rfl, hx, hby, hml, hret, hlk, hnm, hZ0, hown0, hw, hS⟩ := W
  subst hp hvs
  intro vm0 n1 ad T locs X hB hn1 hA hN_ hG hF
  have hZ : Z.Warmed39 (s.setVm vm0).vm := State.Warmed39.trans hZ0 (isOfB hB)
  have hown : (s.setVm vm0).vm.findClass own = some m.cls := by show vm0.findClass own = _; rw [(isOfB hB).alike.findClass]; exact hown0
  have hcl : x.toNatClampNeg = N := by simp [Int32.toNatClampNeg, hN]
  obtain ⟨T', h', cA, X', e', E, A, O, st⟩ := newR X hx hZ hown (hw _ w1) (hw _ w2) rfl (g := mkF m pc (Ls.map (rs ad)).toArray (.int x :: S.map (rv ad))) rfl (Jvm.hb hby hd) rfl (by rw [Int32.lt_iff_toInt_lt, hN]; simp <;> omega) (cap := N) (by omega) hb8 hk hsl
  have hO : ObjAt sig Z h' ad T.heap.size (.inr (.object C), List.replicate N Value.null) := by
    refine ⟨_, A, by simp [newA, hcl, rv, defaultValue], by simp; omega, fun v hv => ?_, fun _ C' hC' => by cases hC'; exact O⟩
    rw [List.eq_of_mem_replicate hv]; rfl
  have hR := Rep.push (a := T.heap.size) (o' := (.inr (.object C), List.replicate N Value.null)) hG E (fun _ => ⟨Nat.le_refl _, A.lt, hO⟩) (fun v hv => by rw [List.eq_of_mem_replicate hv]; rfl)
  have hA' : Agr N0 ad0 (upd ad G.length T.heap.size) := hA.trans upd_agr hN_
  obtain ⟨t, o, st2, h⟩ := hr vm0 n1 (upd ad G.length T.heap.size) T' locs X' hB (by rw [e']; exact Nat.le_trans hn1 E.1) hA' (by simp; omega) (by rw [e']; exact hR) hF
  refine ⟨t, o, st _ ?_, h⟩
  rw [Bool.and_eq_true] at hsc
  rw [List.map_cons, maps_agr upd_agr hsc.1, map_agr upd_agr hsc.2] at st2
  rw [show rv (upd ad G.length T.heap.size) (.ref G.length) = .ref T.heap.size from congrArg Value.ref upd_self] at st2
  exact st2
/-- a string constant: some reference, of which nothing is known -/
theorem Walk.ldcS (W : Walk true tab sig l Z a0 n0 ol own nm bytes maxL ret R Q J) {idx : Nat} {text : String} (n : Nat) (hd : decode bytes pc = .ok (.ldc idx, 2)) (w1 : Jvm.Cond.stringLink own idx text ∈ tab) (wS : ∀ q ∈ Bundle.stringAtoms, q ∈ tab) (hn : 4 * text.toList.length ≤ n) (hbig : n ≤ 536870912) (ci : Nat) (hci : sig[ci]? = none)
    (hsc : (Ls.all (scS G.length) && S.all (sc G.length)) = true) (hk : k + 2 ≤ R.cells) (hsl : sl + (n + 4) ≤ R.slots) (hr : J pc' Ls (.ref G.length :: S) (G ++ [(.inl ci, [])]) (k + 2) (sl + (n + 4))) (hp : pc + 2 = pc' := by rfl) : J pc Ls S G k sl := by
  obtain ⟨ad0, N0, p, e, s, m, args, below, meth, c, rfl, hx, hby, hml, hret, hlk, hnm, hZ0, hown0, hw, hS⟩ := W
  subst hp
  intro vm0 n1 ad T locs X hB hn1 hA hN hG hF
  have hZ : Z.Warmed39 (s.setVm vm0).vm := State.Warmed39.trans hZ0 (isOfB hB)
  have hown : (s.setVm vm0).vm.findClass own = some m.cls := by show vm0.findClass own = _; rw [(isOfB hB).alike.findClass]; exact hown0
  have hB' : s.Since vm0 n1 := hB
  obtain ⟨a, T', h', k1, X', e', E, hS', hk1, hZ', hown', st⟩ := RoadKit.ldcS X hx hZ hown (hw _ w1) (fun q hq => hw _ (wS q hq)) rfl hB' hn1 (g := mkF m pc (Ls.map (rs ad)).toArray (S.map (rv ad))) rfl (Jvm.hb hby hd) hn hbig hk hsl
  have hR := Rep.push (a := a) (o' := (.inl ci, [])) hG E (fun q => by simp [kn, hci] at q) (fun v hv => by cases hv)
  have hA' : Agr N0 ad0 (upd ad G.length a) := hA.trans upd_agr hN
  obtain ⟨t, o, st2, h⟩ := hr T'.vm k1 (upd ad G.length a) T' locs X' hS' (by rw [e']; exact hk1) hA' (by simp; omega) (by rw [e']; exact hR) hF
  refine ⟨t, o, st _ ?_, h⟩
  rw [Bool.and_eq_true] at hsc
  rw [List.map_cons, maps_agr upd_agr hsc.1, map_agr upd_agr hsc.2] at st2
  rw [show rv (upd ad G.length a) (.ref G.length) = .ref a from congrArg Value.ref upd_self] at st2
  exact st2
theorem arr_get {c : Cell} {vs : List Value} {x : Int32} {i : Nat} (hs : c.slots.toList = vs.map (rv ad)) (h1 : x.toNatClampNeg = i) (hv : vs[i]? = some v) : c.slots[x.toNatClampNeg]? = some (rv ad v) := by
  have : c.slots.toList[i]? = some (rv ad v) := by rw [hs, List.getElem?_map, hv]; rfl
  rw [h1]; simpa using this
theorem ix_in {c : Cell} {vs : List Value} {x : Int32} {i : Nat} (hs : c.slots.toList = vs.map (rv ad)) (hx : x.toInt = i) (hi : i < vs.length) : ¬ (x < 0 ∨ c.slots.size ≤ x.toNatClampNeg) ∧ x.toNatClampNeg = i := by
  have h1 : x.toNatClampNeg = i := by simp [Int32.toNatClampNeg, hx]
  have hl : c.slots.size = vs.length := by have := congrArg List.length hs; simpa using this
  refine ⟨fun q => ?_, h1⟩
  rcases q with q | q
  · rw [Int32.lt_iff_toInt_lt, hx] at q
    simp at q
    omega
  · rw [h1, hl] at q
    omega
theorem Walk.arraylength (W : Walk fl tab sig l Z a0 n0 ol own nm bytes maxL ret R Q J) {ty : FieldType} {vs : List Value} (z : Int32) (hd : decode bytes pc = .ok (.arraylength, 1)) (hO : G[j]? = some (.inr ty, vs)) (hz : vs.length.toInt32 = z)
    (hr : J pc' Ls (.int z :: S) G k sl) (hp : pc + 1 = pc' := by rfl) : J pc Ls (.ref j :: S) G k sl := by
  obtain ⟨ad0, N0, p, e, s, m, args, below, meth, c, rfl, hx, hby, hml, hret, hlk, hnm, hZ0, hown0, hw, hS⟩ := W
  subst hp hz
  intro vm0 n1 ad T locs X hB hn1 hA hN hG hF
  have hZ : Z.Warmed39 (s.setVm vm0).vm := State.Warmed39.trans hZ0 (isOfB hB)
  have hown : (s.setVm vm0).vm.findClass own = some m.cls := by show vm0.findClass own = _; rw [(isOfB hB).alike.findClass]; exact hown0
  obtain ⟨cl, A, hs, -⟩ := (hG.2.2.2.2.1 j _ hO rfl).1
  obtain ⟨t, o, st, h⟩ := hr vm0 n1 ad T locs X hB hn1 hA hN hG hF
  have e : cl.slots.size.toInt32 = vs.length.toInt32 := by
    have := congrArg List.length hs
    simp at this
    rw [this]
  exact ⟨t, o, X.arraylength hx A.1 (State.isArrayOf_alike hZ.alike A.2.1) (g := mkF m pc (Ls.map (rs ad)).toArray (.ref (ad j) :: S.map (rv ad))) rfl rfl (Jvm.hb hby hd) _ (by rw [e]; exact st), h⟩
theorem Walk.aastore (W : Walk fl tab sig l Z a0 n0 ol own nm bytes maxL ret R Q J) {x : Int32} {C K : String} (i : Nat) {vs : List Value} {ci n j2 : Nat} {fs : List Fd} {ws2 : List Value} (hd : decode bytes pc = .ok (.aastore, 1)) (hO : G[j]? = some (.inr (.object C), vs)) (hol : Nat.ble ol.length j = true) (hi : x.toInt = i) (hl : i < vs.length)
    (hO2 : G[j2]? = some (.inl ci, ws2)) (hc2 : sig[ci]? = some (K, n, fs)) (wc : Jvm.Cond.castable K C ∈ tab)
    (hr : J pc' Ls S (G.set j (.inr (.object C), vs.set i (.ref j2))) k sl) (hp : pc + 1 = pc' := by rfl) : J pc Ls (.ref j2 :: .int x :: .ref j :: S) G k sl := by
  obtain ⟨ad0, N0, p, e, s, m, args, below, meth, c, rfl, hx, hby, hml, hret, hlk, hnm, hZ0, hown0, hw, hS⟩ := W
  subst hp
  intro vm0 n1 ad T locs X hB hn1 hA hN hG hF
  have hZ : Z.Warmed39 (s.setVm vm0).vm := State.Warmed39.trans hZ0 (isOfB hB)
  have hown : (s.setVm vm0).vm.findClass own = some m.cls := by show vm0.findClass own = _; rw [(isOfB hB).alike.findClass]; exact hown0
  have hjo : ol.length ≤ j := Nat.le_of_ble_eq_true hol
  obtain ⟨hOb, hge, hlt⟩ := hG.2.2.2.2.1 j _ hO rfl
  obtain ⟨cl, A, hs, h1, h2, h3⟩ := hOb
  obtain ⟨hOb2, -, -⟩ := hG.2.2.2.2.1 j2 _ hO2 (by simp [kn, hc2])
  obtain ⟨E2, -, -⟩ := hOb2 K n fs hc2
  obtain ⟨q1, q2⟩ := ix_in hs hi hl
  obtain ⟨T', h', X', e', W', st⟩ := stR X hx hZ rfl A q1 rfl (Sto.of A (h3 (fun z => by rw [z] at hl; cases hl) C rfl) (Ins.of_exa E2 (hw _ wc))) (g := mkF m pc (Ls.map (rs ad)).toArray (.ref (ad j2) :: .int x :: .ref (ad j) :: S.map (rv ad))) rfl rfl (Jvm.hb hby hd)
  have hlt2 : j2 < G.length := (List.getElem?_eq_some_iff.mp hO2).1
  have hN' : ObjAt sig Z h' ad (ad j) (.inr (.object C), vs.set i (.ref j2)) := by
    refine ⟨_, A.same W', by simp [Cell.setSlot, hs, q2, List.map_set, rv], by simpa using h1, fun u hu => ?_, fun _ => h3 (fun z => by rw [z] at hl; cases hl)⟩
    rcases List.mem_or_eq_of_mem_set hu with q | q
    · exact h2 u q
    · rw [q]; rfl
  have hscv : ∀ w ∈ (vs.set i (.ref j2)), sc G.length w = true := fun w hw' => by
    rcases List.mem_or_eq_of_mem_set hw' with q | q
    · exact hG.2.2.2.2.2.2 j _ hO w q
    · rw [q]; simpa [sc] using hlt2
  have hR := Rep.write (o' := (.inr (.object C), vs.set i (.ref j2))) hG hjo W' hO rfl (fun _ => rfl) hN' hscv
  obtain ⟨t, o, st2, h⟩ := hr vm0 n1 ad T' _ X' hB (by rw [e', W'.size]; exact hn1) hA (by rw [List.length_set]; exact hN) (by rw [e']; exact hR) (fr_snoc hF (hge hjo))
  exact ⟨t, o, st _ st2, h⟩
theorem Walk.getstatic (W : Walk fl tab sig l Z a0 n0 ol own nm bytes maxL ret R Q J) {idx : Nat} {O f d : String} (hd : decode bytes pc = .ok (.getstatic idx, 3)) (hlink : Jvm.Cond.fieldLink own idx O f d ∈ tab) (ho : ol[j]? = some a) (hsta : Sta Z Z.heap O f d (.ref a))
    (hr : J pc' Ls (.ref j :: S) G k sl) (hp : pc + 3 = pc' := by rfl) : J pc Ls S G k sl := by
  obtain ⟨ad0, N0, p, e, s, m, args, below, meth, c, rfl, hx, hby, hml, hret, hlk, hnm, hZ0, hown0, hw, hS⟩ := W
  subst hp
  intro vm0 n1 ad T locs X hB hn1 hA hN hG hF
  have hZ : Z.Warmed39 (s.setVm vm0).vm := State.Warmed39.trans hZ0 (isOfB hB)
  have hown : (s.setVm vm0).vm.findClass own = some m.cls := by show vm0.findClass own = _; rw [(isOfB hB).alike.findClass]; exact hown0
  obtain ⟨T', X', e', st⟩ := getS X hx hZ hown (host := "") (hw _ hlink) Via.refl rfl (hsta.ext hG.2.1) (g := mkF m pc (Ls.map (rs ad)).toArray (S.map (rv ad))) rfl (Jvm.hb hby hd)
  obtain ⟨t, o, st2, h⟩ := hr vm0 n1 ad T' locs X' hB (by rw [e']; exact hn1) hA hN (by rw [e']; exact hG) hF
  refine ⟨t, o, st _ ?_, h⟩
  rw [List.map_cons, show rv ad (.ref j) = .ref a from congrArg Value.ref (hG.2.2.1 j a ho).1] at st2
  exact st2
theorem Walk.initObject (W : Walk fl tab sig l Z a0 n0 ol own nm bytes maxL ret R Q J) {idx : Nat} {a : Addr} (hd : decode bytes pc = .ok (.invokespecial idx, 3)) (w1 : Jvm.Cond.methodLink own idx Lib.objectInit ∈ tab) (w2 : Jvm.Cond.instanceMethod Lib.objectInit ∈ tab) (w3 : Jvm.Cond.code Lib.objectInit ⟨#[0xb1]⟩ 1 none ∈ tab)
    (hsz : Ls.length = maxL) (hf : Nat.ble 1 R.frames = true) (hl : Nat.ble ((S.map fun v => v.category).sum + 12) R.locals = true) (hr : J pc' Ls S G k sl) (hp : pc + 3 = pc' := by rfl) : J pc Ls (.ref a :: S) G k sl := by
  obtain ⟨ad0, N0, p, e, s, m, args, below, meth, c, rfl, hx, hby, hml, hret, hlk, hnm, hZ0, hown0, hw, hS⟩ := W
  subst hp
  intro vm0 n1 ad T locs X hB hn1 hA hN hG hF
  have hZ : Z.Warmed39 (s.setVm vm0).vm := State.Warmed39.trans hZ0 (isOfB hB)
  have hown : (s.setVm vm0).vm.findClass own = some m.cls := by show vm0.findClass own = _; rw [(isOfB hB).alike.findClass]; exact hown0
  obtain ⟨T', X', e', st⟩ := initO X hx hZ hown (hw _ w1) (hw _ w2) (hw _ w3) rfl (g := mkF m pc (Ls.map (rs ad)).toArray (.ref (ad a) :: S.map (rv ad))) rfl (by rw [hml, ← hsz]; simp) rfl (Jvm.hb hby hd) (Nat.le_of_ble_eq_true hf) (W := (S.map fun v => v.category).sum) (by show 2 * 0 + _ ≤ _; rw [cat_map]; omega) (Nat.le_of_ble_eq_true hl)
  obtain ⟨t, o, st2, h⟩ := hr vm0 n1 ad T' locs X' hB (by rw [e']; exact hn1) hA hN (by rw [e']; exact hG) hF
  exact ⟨t, o, st _ st2, h⟩
/-! ## references compared -/
def knV (sig : Sig) (G : Ghost) : Value → Bool
  | .ref k => match G[k]? with
    | some o => kn sig o
    | none => false
  | .null => true
  | _ => false
theorem rv_ne (hG : Rep sig Z n0 ol ad h G) {x y : Value} (hx : knV sig G x = true) (hy : knV sig G y = true) (q : ¬ x = y) : ¬ rv ad x = rv ad y := by
  cases x <;> cases y <;> simp [knV] at hx hy <;> simp [rv] at q ⊢
  rename_i i j
  intro e
  cases h1 : G[i]? with
  | none => simp [h1] at hx
  | some o1 =>
    cases h2 : G[j]? with
    | none => simp [h2] at hy
    | some o2 =>
      simp only [h1] at hx
      simp only [h2] at hy
      exact q (hG.2.2.2.2.2.1 i j o1 o2 h1 h2 hx hy e)
theorem Walk.acmp_eq_t (W : Walk fl tab sig l Z a0 n0 ol own nm bytes maxL ret R Q J) {x y : Value} {o : Int} (hd : decode bytes pc = .ok (.if_acmp .eq o, 3)) (h1 : x.isRef = true) (h2 : y.isRef = true) (q : x = y) (hr : J pc' Ls S G k sl) (ho : 0 ≤ (pc : Int) + o := by decide) (hp : ((pc : Int) + o).toNat = pc' := by decide) : J pc Ls (y :: x :: S) G k sl := by
  obtain ⟨ad0, N0, p, e, s, m, args, below, meth, c, rfl, hx, hby, hml, hret, hlk, hnm, hZ0, hown0, hw, hS⟩ := W
  intro vm0 n1 ad T locs X hB hn1 hA hN hG hF
  have hZ : Z.Warmed39 (s.setVm vm0).vm := State.Warmed39.trans hZ0 (isOfB hB)
  have hown : (s.setVm vm0).vm.findClass own = some m.cls := by show vm0.findClass own = _; rw [(isOfB hB).alike.findClass]; exact hown0
  obtain ⟨t, o, st, h⟩ := hr vm0 n1 ad T locs X hB hn1 hA hN hG hF
  exact ⟨t, o, XT.acmpYes X.here hx rfl rfl (Jvm.hb hby hd) rfl (by rw [rv_isRef]; exact h1) (by rw [rv_isRef]; exact h2) (XT.aa_eq_t (congrArg (rv ad) q)) ho hp st, h⟩
theorem Walk.acmp_ne_f (W : Walk fl tab sig l Z a0 n0 ol own nm bytes maxL ret R Q J) {x y : Value} {o : Int} (hd : decode bytes pc = .ok (.if_acmp .ne o, 3)) (h1 : x.isRef = true) (h2 : y.isRef = true) (q : x = y) (hr : J pc' Ls S G k sl) (hp : pc + 3 = pc' := by rfl) : J pc Ls (y :: x :: S) G k sl := by
  obtain ⟨ad0, N0, p, e, s, m, args, below, meth, c, rfl, hx, hby, hml, hret, hlk, hnm, hZ0, hown0, hw, hS⟩ := W
  subst hp
  intro vm0 n1 ad T locs X hB hn1 hA hN hG hF
  have hZ : Z.Warmed39 (s.setVm vm0).vm := State.Warmed39.trans hZ0 (isOfB hB)
  have hown : (s.setVm vm0).vm.findClass own = some m.cls := by show vm0.findClass own = _; rw [(isOfB hB).alike.findClass]; exact hown0
  obtain ⟨t, o, st, h⟩ := hr vm0 n1 ad T locs X hB hn1 hA hN hG hF
  exact ⟨t, o, XT.acmpNo X.here hx rfl (Jvm.hb hby hd) rfl (by rw [rv_isRef]; exact h1) (by rw [rv_isRef]; exact h2) (XT.aa_ne_f (congrArg (rv ad) q)) st, h⟩
theorem Walk.acmp_ne_t (W : Walk fl tab sig l Z a0 n0 ol own nm bytes maxL ret R Q J) {x y : Value} {o : Int} (hd : decode bytes pc = .ok (.if_acmp .ne o, 3)) (h1 : x.isRef = true) (h2 : y.isRef = true) (k1 : knV sig G x = true) (k2 : knV sig G y = true) (q : ¬ x = y) (hr : J pc' Ls S G k sl) (ho : 0 ≤ (pc : Int) + o := by decide) (hp : ((pc : Int) + o).toNat = pc' := by decide) : J pc Ls (y :: x :: S) G k sl := by
  obtain ⟨ad0, N0, p, e, s, m, args, below, meth, c, rfl, hx, hby, hml, hret, hlk, hnm, hZ0, hown0, hw, hS⟩ := W
  intro vm0 n1 ad T locs X hB hn1 hA hN hG hF
  have hZ : Z.Warmed39 (s.setVm vm0).vm := State.Warmed39.trans hZ0 (isOfB hB)
  have hown : (s.setVm vm0).vm.findClass own = some m.cls := by show vm0.findClass own = _; rw [(isOfB hB).alike.findClass]; exact hown0
  obtain ⟨t, o, st, h⟩ := hr vm0 n1 ad T locs X hB hn1 hA hN hG hF
  exact ⟨t, o, XT.acmpYes X.here hx rfl rfl (Jvm.hb hby hd) rfl (by rw [rv_isRef]; exact h1) (by rw [rv_isRef]; exact h2) (XT.aa_ne_t (rv_ne hG k1 k2 q)) ho hp st, h⟩
theorem Walk.acmp_eq_f (W : Walk fl tab sig l Z a0 n0 ol own nm bytes maxL ret R Q J) {x y : Value} {o : Int} (hd : decode bytes pc = .ok (.if_acmp .eq o, 3)) (h1 : x.isRef = true) (h2 : y.isRef = true) (k1 : knV sig G x = true) (k2 : knV sig G y = true) (q : ¬ x = y) (hr : J pc' Ls S G k sl) (hp : pc + 3 = pc' := by rfl) : J pc Ls (y :: x :: S) G k sl := by
  obtain ⟨ad0, N0, p, e, s, m, args, below, meth, c, rfl, hx, hby, hml, hret, hlk, hnm, hZ0, hown0, hw, hS⟩ := W
  subst hp
  intro vm0 n1 ad T locs X hB hn1 hA hN hG hF
  have hZ : Z.Warmed39 (s.setVm vm0).vm := State.Warmed39.trans hZ0 (isOfB hB)
  have hown : (s.setVm vm0).vm.findClass own = some m.cls := by show vm0.findClass own = _; rw [(isOfB hB).alike.findClass]; exact hown0
  obtain ⟨t, o, st, h⟩ := hr vm0 n1 ad T locs X hB hn1 hA hN hG hF
  exact ⟨t, o, XT.acmpNo X.here hx rfl (Jvm.hb hby hd) rfl (by rw [rv_isRef]; exact h1) (by rw [rv_isRef]; exact h2) (XT.aa_eq_f (rv_ne hG k1 k2 q)) st, h⟩
/-! ## calls by their contracts -/
variable {y z : MethodName} {bytes' : ByteArray} {maxL' : Nat} {ret' : Option FieldType} {R' : Room} {as St : List Value} {Q' : Post}
def QQ (sig : Sig) (Z : State) (n0 : Nat) (ol : List Addr) (ad : Ad) (sz : Nat) (G : Ghost) (Q' : Post) (v : Option Value) (h : Heap) (L : List Loc) : Prop := ∃ ad' G' vg, v = Option.map (rv ad') vg ∧ Agr G.length ad ad' ∧ G.length ≤ G'.length ∧ Rep sig Z n0 ol ad' h G' ∧ (∀ w, vg = some w → sc G'.length w = true) ∧ Q' vg G' ∧ Fr n0 L ∧ Nat.le sz h.size
theorem Meth.back {h0 : Heap} (hM : Meth sig l Z n0 ol y bytes' maxL' ret' R' as G Q') (hG : Rep sig Z n0 ol ad h0 G) : MetFree l y (head1 [Jvm.Cond.code y bytes' maxL' ret'] R') (fun a U => a = (as.map (rv ad)).toArray ∧ Z.Warmed39 U.vm ∧ U.heap = h0) (fun _ _ _ _ _ => True)
    (fun _ U o U' => ∃ v L, o = .returned v ∧ QQ sig Z n0 ol ad h0.size G Q' v U'.heap L ∧ FrameEnd U o U' L R'.cells R'.slots) := hM [] h0 ad hG
theorem back_frame {m : MethodId} {vg : Option Value} (A : Agr G.length ad ad') (hs : (Ls.all (scS G.length) && S.all (sc G.length)) = true) : mkF m pc (Ls.map (rs ad')).toArray ((vg.toList ++ S).map (rv ad')) = mkF m pc (Ls.map (rs ad)).toArray ((Option.map (rv ad') vg).toList ++ S.map (rv ad)) := by
  rw [Bool.and_eq_true] at hs
  rw [List.map_append, maps_agr A hs.1, map_agr A hs.2]
  cases vg <;> rfl
theorem Walk.callStatic (W : Walk fl tab sig l Z a0 n0 ol own nm bytes maxL ret R Q J) {idx : Nat} (hd : decode bytes pc = .ok (.invokestatic idx, 3)) (w1 : Jvm.Cond.methodLink own idx y ∈ tab) (w2 : Jvm.Cond.static y ∈ tab) (w3 : Jvm.Cond.initialized y.cls ∈ tab) (w4 : Jvm.Cond.code y bytes' maxL' ret' ∈ tab)
    (hM : Meth sig l Z n0 ol y bytes' maxL' ret' R' as G Q') (hlen : ∀ sg, parseMethodDescriptor y.desc = some sg → as.length = sg.parameters.length) (hSt : St = as.reverse ++ S) (hsc : (Ls.all (scS G.length) && S.all (sc G.length)) = true) (hsz : Ls.length = maxL) (hf : Nat.ble (R'.frames + 1) R.frames = true) (hl : Nat.ble ((S.map fun v => v.category).sum + (maxL' + 11) + R'.locals) R.locals = true)
    (hk : k + R'.cells ≤ R.cells) (hsl : sl + R'.slots ≤ R.slots) (hr : ∀ v G', Q' v G' → J pc' Ls (v.toList ++ S) G' (k + R'.cells) (sl + R'.slots)) (hp : pc + 3 = pc' := by rfl)
    (hy : y.cls ≠ "java/lang/invoke/MethodHandle" ∧ y.cls ≠ "java/lang/invoke/VarHandle" := by decide) : J pc Ls St G k sl := by
  obtain ⟨ad0, N0, p, e, s, m, args, below, meth, c, rfl, hx, hby, hml, hret, hlk, hnm, hZ0, hown0, hw, hS⟩ := W
  subst hp hSt
  intro vm0 n1 ad T locs X hB hn1 hA hN hG hF
  have hZ : Z.Warmed39 (s.setVm vm0).vm := State.Warmed39.trans hZ0 (isOfB hB)
  have hown : (s.setVm vm0).vm.findClass own = some m.cls := by show vm0.findClass own = _; rw [(isOfB hB).alike.findClass]; exact hown0
  obtain ⟨v, vm₁, ⟨T', L', k', n'⟩, -, X', ⟨Lc, ⟨ad', G', vg, rfl, hA', hN', hG', hsc', hQ', hF', hsz'⟩, l1, y1, z1⟩, st⟩ := Jvm.LawKit.callS X hx (y := y) hown (mvT hZ (hw _ w1)) (mvT hZ (hw _ w2)) (mvT hZ (hw _ w3)) (mvT hZ (hw _ w4)) hy
    (backOf (W := (S.map fun v => v.category).sum) (Q := QQ sig Z n0 ol ad T.heap.size G Q') (hM.back hG) hZ (hw _ w4) (hw _ w3) (Nat.le_of_ble_eq_true hf) (Nat.le_of_ble_eq_true hl))
    (g := mkF m pc (Ls.map (rs ad)).toArray ((as.reverse ++ S).map (rv ad))) rfl (by rw [hml, ← hsz]; simp) (argsL := as.map (rv ad)) (rest := S.map (rv ad)) (fun sg q => by rw [List.length_map]; exact hlen sg q) (by simp [mkF, rv]) (by show 2 * 0 + _ ≤ _; rw [cat_map]; omega) (Jvm.hb hby hd) (fun _ _ => ⟨rfl, rfl, hk, hsl⟩)
  dsimp only [Pt.U, Pt.locs, Pt.cells, Pt.slots] at X' l1 y1 z1 st hG' hsz'
  subst l1 y1 z1
  obtain ⟨t, o, st2, h⟩ := hr vg G' hQ' vm0 n1 ad' T' _ X' hB (Nat.le_trans hn1 hsz') (hA.trans hA' hN) (Nat.le_trans hN hN') hG' (Fr.app hF hF')
  rw [back_frame hA' hsc] at st2
  exact ⟨t, o, st _ st2, h⟩
theorem Walk.callInit (W : Walk fl tab sig l Z a0 n0 ol own nm bytes maxL ret R Q J) {idx : Nat} {a : Nat} (hd : decode bytes pc = .ok (.invokespecial idx, 3)) (w1 : Jvm.Cond.methodLink own idx y ∈ tab) (w2 : Jvm.Cond.instanceMethod y ∈ tab) (w3 : Jvm.Cond.initialized y.cls ∈ tab) (w4 : Jvm.Cond.code y bytes' maxL' none ∈ tab)
    (hM : Meth sig l Z n0 ol y bytes' maxL' none R' (.ref a :: as) G Q') (hlen : ∀ sg, parseMethodDescriptor y.desc = some sg → as.length = sg.parameters.length) (hSt : St = as.reverse ++ .ref a :: S) (hsc : (Ls.all (scS G.length) && S.all (sc G.length)) = true) (hsz : Ls.length = maxL) (hf : Nat.ble (R'.frames + 1) R.frames = true) (hl : Nat.ble ((S.map fun v => v.category).sum + (maxL' + 11) + R'.locals) R.locals = true)
    (hk : k + R'.cells ≤ R.cells) (hsl : sl + R'.slots ≤ R.slots) (hr : ∀ v G', Q' v G' → J pc' Ls (v.toList ++ S) G' (k + R'.cells) (sl + R'.slots)) (hp : pc + 3 = pc' := by rfl) (hy1 : y.name = "<init>" := by rfl)
    (hy : y.cls ≠ "java/lang/invoke/MethodHandle" ∧ y.cls ≠ "java/lang/invoke/VarHandle" := by decide) : J pc Ls St G k sl := by
  obtain ⟨ad0, N0, p, e, s, m, args, below, meth, c, rfl, hx, hby, hml, hret, hlk, hnm, hZ0, hown0, hw, hS⟩ := W
  subst hp hSt
  intro vm0 n1 ad T locs X hB hn1 hA hN hG hF
  have hZ : Z.Warmed39 (s.setVm vm0).vm := State.Warmed39.trans hZ0 (isOfB hB)
  have hown : (s.setVm vm0).vm.findClass own = some m.cls := by show vm0.findClass own = _; rw [(isOfB hB).alike.findClass]; exact hown0
  obtain ⟨v, vm₁, ⟨T', L', k', n'⟩, -, X', ⟨Lc, ⟨ad', G', vg, rfl, hA', hN', hG', hsc', hQ', hF', hsz'⟩, l1, y1, z1⟩, st⟩ := X.specialBack hx (y := y) hy1 hown (mvT hZ (hw _ w1)) (mvT hZ (hw _ w2)) (mvT hZ (hw _ w4)) hy
    (backOf (W := (S.map fun v => v.category).sum) (Q := QQ sig Z n0 ol ad T.heap.size G Q') (hM.back hG) hZ (hw _ w4) (hw _ w3) (Nat.le_of_ble_eq_true hf) (Nat.le_of_ble_eq_true hl))
    (g := mkF m pc (Ls.map (rs ad)).toArray ((as.reverse ++ .ref a :: S).map (rv ad))) rfl (by rw [hml, ← hsz]; simp) (Steps.refl _) (a := ad a) (argsL := as.map (rv ad)) (rest := S.map (rv ad)) (fun sg q => by rw [List.length_map]; exact hlen sg q) (by simp [mkF, rv]) (by show 2 * 0 + _ ≤ _; rw [cat_map]; omega) (Jvm.hb hby hd) (fun _ _ => ⟨rfl, rfl, hk, hsl⟩)
  dsimp only [Pt.U, Pt.locs, Pt.cells, Pt.slots] at X' l1 y1 z1 st hG' hsz'
  subst l1 y1 z1
  obtain ⟨t, o, st2, h⟩ := hr vg G' hQ' vm0 n1 ad' T' _ X' hB (Nat.le_trans hn1 hsz') (hA.trans hA' hN) (Nat.le_trans hN hN') hG' (Fr.app hF hF')
  rw [back_frame hA' hsc] at st2
  exact ⟨t, o, st.trans st2, h⟩
theorem Walk.callVirtual (W : Walk fl tab sig l Z a0 n0 ol own nm bytes maxL ret R Q J) {idx ci n : Nat} {C : String} {fs : List Fd} {vs : List Value} (hd : decode bytes pc = .ok (.invokevirtual idx, 3)) (w1 : Jvm.Cond.methodLink own idx y ∈ tab) (w2 : Jvm.Cond.declares y ∈ tab) (w3 : Jvm.Cond.selects C y y ∈ tab) (w4 : Jvm.Cond.instanceMethod y ∈ tab) (w5 : Jvm.Cond.initialized y.cls ∈ tab) (w6 : Jvm.Cond.code y bytes' maxL' ret' ∈ tab)
    (hO : G[j]? = some (.inl ci, vs)) (hc : sig[ci]? = some (C, n, fs)) (hM : Meth sig l Z n0 ol y bytes' maxL' ret' R' (.ref j :: as) G Q') (hlen : ∀ sg, parseMethodDescriptor y.desc = some sg → as.length = sg.parameters.length) (hSt : St = as.reverse ++ .ref j :: S) (hsc : (Ls.all (scS G.length) && S.all (sc G.length)) = true) (hsz : Ls.length = maxL) (hf : Nat.ble (R'.frames + 1) R.frames = true) (hl : Nat.ble ((S.map fun v => v.category).sum + (maxL' + 11) + R'.locals) R.locals = true)
    (hk : k + R'.cells ≤ R.cells) (hsl : sl + R'.slots ≤ R.slots) (hr : ∀ v G', Q' v G' → J pc' Ls (v.toList ++ S) G' (k + R'.cells) (sl + R'.slots)) (hp : pc + 3 = pc' := by rfl)
    (hy : y.cls ≠ "java/lang/invoke/MethodHandle" ∧ y.cls ≠ "java/lang/invoke/VarHandle" := by decide) : J pc Ls St G k sl := by
  obtain ⟨ad0, N0, p, e, s, m, args, below, meth, c, rfl, hx, hby, hml, hret, hlk, hnm, hZ0, hown0, hw, hS⟩ := W
  subst hp hSt
  intro vm0 n1 ad T locs X hB hn1 hA hN hG hF
  have hZ : Z.Warmed39 (s.setVm vm0).vm := State.Warmed39.trans hZ0 (isOfB hB)
  have hown : (s.setVm vm0).vm.findClass own = some m.cls := by show vm0.findClass own = _; rw [(isOfB hB).alike.findClass]; exact hown0
  obtain ⟨E, hlen', F⟩ := (hG.2.2.2.2.1 j _ hO (by simp [kn, hc])).1 C n fs hc
  obtain ⟨cq, kq, qa, qb, qc⟩ := isOf hZ rfl E
  obtain ⟨v, vm₁, ⟨T', L', k', n'⟩, -, X', ⟨Lc, ⟨ad', G', vg, rfl, hA', hN', hG', hsc', hQ', hF', hsz'⟩, l1, y1, z1⟩, st⟩ := X.virtualBack hx (y := y) (z := y) hown (mvT hZ (hw _ w1)) (mvT hZ (hw _ w2)) (notFace_of_selects (args := #[]) (mvT hZ (hw _ w3))) (mvT hZ (hw _ w3)) (mvT hZ (hw _ w4)) hy
    (backOf (W := (S.map fun v => v.category).sum) (Q := QQ sig Z n0 ol ad T.heap.size G Q') (hM.back hG) hZ (hw _ w6) (hw _ w5) (Nat.le_of_ble_eq_true hf) (Nat.le_of_ble_eq_true hl)) qa qc
    (g := mkF m pc (Ls.map (rs ad)).toArray ((as.reverse ++ .ref j :: S).map (rv ad))) rfl (by rw [hml, ← hsz]; simp) (Steps.refl _) (argsL := as.map (rv ad)) (rest := S.map (rv ad)) (fun sg q => by rw [List.length_map]; exact hlen sg q) (by simp [mkF, rv]) (by show 2 * 0 + _ ≤ _; rw [cat_map]; omega) (Jvm.hb hby hd) (fun _ _ => ⟨rfl, rfl, hk, hsl⟩)
  dsimp only [Pt.U, Pt.locs, Pt.cells, Pt.slots] at X' l1 y1 z1 st hG' hsz'
  subst l1 y1 z1
  obtain ⟨t, o, st2, h⟩ := hr vg G' hQ' vm0 n1 ad' T' _ X' hB (Nat.le_trans hn1 hsz') (hA.trans hA' hN) (Nat.le_trans hN hN') hG' (Fr.app hF hF')
  rw [back_frame hA' hsc] at st2
  exact ⟨t, o, st.trans st2, h⟩
theorem Walk.callUp (W : Walk fl tab sig l Z a0 n0 ol own nm bytes maxL ret R Q J) {idx ci n : Nat} {C owner : String} {fs : List Fd} {vs : List Value} (hd : decode bytes pc = .ok (.invokevirtual idx, 3)) (w1 : Jvm.Cond.methodLink own idx z ∈ tab) (w2 : Jvm.Cond.sameMethod z.cls owner z.name z.desc ∈ tab) (w2' : Jvm.Cond.declares ⟨owner, z.name, z.desc⟩ ∈ tab) (w3 : Jvm.Cond.selects C z y ∈ tab) (w4 : Jvm.Cond.instanceMethod y ∈ tab) (w5 : Jvm.Cond.initialized y.cls ∈ tab) (w6 : Jvm.Cond.code y bytes' maxL' ret' ∈ tab)
    (hO : G[j]? = some (.inl ci, vs)) (hc : sig[ci]? = some (C, n, fs)) (hM : Meth sig l Z n0 ol y bytes' maxL' ret' R' (.ref j :: as) G Q') (hlen : ∀ sg, parseMethodDescriptor z.desc = some sg → as.length = sg.parameters.length) (hSt : St = as.reverse ++ .ref j :: S) (hsc : (Ls.all (scS G.length) && S.all (sc G.length)) = true) (hsz : Ls.length = maxL) (hf : Nat.ble (R'.frames + 1) R.frames = true) (hl : Nat.ble ((S.map fun v => v.category).sum + (maxL' + 11) + R'.locals) R.locals = true)
    (hk : k + R'.cells ≤ R.cells) (hsl : sl + R'.slots ≤ R.slots) (hr : ∀ v G', Q' v G' → J pc' Ls (v.toList ++ S) G' (k + R'.cells) (sl + R'.slots)) (hp : pc + 3 = pc' := by rfl)
    (hy : owner ≠ "java/lang/invoke/MethodHandle" ∧ owner ≠ "java/lang/invoke/VarHandle" := by decide) : J pc Ls St G k sl := by
  obtain ⟨ad0, N0, p, e, s, m, args, below, meth, c, rfl, hx, hby, hml, hret, hlk, hnm, hZ0, hown0, hw, hS⟩ := W
  subst hp hSt
  intro vm0 n1 ad T locs X hB hn1 hA hN hG hF
  have hZ : Z.Warmed39 (s.setVm vm0).vm := State.Warmed39.trans hZ0 (isOfB hB)
  have hown : (s.setVm vm0).vm.findClass own = some m.cls := by show vm0.findClass own = _; rw [(isOfB hB).alike.findClass]; exact hown0
  obtain ⟨E, hlen', F⟩ := (hG.2.2.2.2.1 j _ hO (by simp [kn, hc])).1 C n fs hc
  obtain ⟨cq, kq, qa, qb, qc⟩ := isOf hZ rfl E
  obtain ⟨v, vm₁, ⟨T', L', k', n'⟩, -, X', ⟨Lc, ⟨ad', G', vg, rfl, hA', hN', hG', hsc', hQ', hF', hsz'⟩, l1, y1, z1⟩, st⟩ := X.virtualBackUp hx (x := z) (y := y) (owner := owner) hown (mvT hZ (hw _ w1)) (mvT hZ (hw _ w2)) (mvT hZ (hw _ w2')) hy (mvT hZ (hw _ w3)) (mvT hZ (hw _ w4))
    (backOf (W := (S.map fun v => v.category).sum) (Q := QQ sig Z n0 ol ad T.heap.size G Q') (hM.back hG) hZ (hw _ w6) (hw _ w5) (Nat.le_of_ble_eq_true hf) (Nat.le_of_ble_eq_true hl)) qa qc
    (g := mkF m pc (Ls.map (rs ad)).toArray ((as.reverse ++ .ref j :: S).map (rv ad))) rfl (by rw [hml, ← hsz]; simp) (Steps.refl _) (argsL := as.map (rv ad)) (rest := S.map (rv ad)) (fun sg q => by rw [List.length_map]; exact hlen sg q) (by simp [mkF, rv]) (by show 2 * 0 + _ ≤ _; rw [cat_map]; omega) (Jvm.hb hby hd) (fun _ _ => ⟨rfl, rfl, hk, hsl⟩)
  dsimp only [Pt.U, Pt.locs, Pt.cells, Pt.slots] at X' l1 y1 z1 st hG' hsz'
  subst l1 y1 z1
  obtain ⟨t, o, st2, h⟩ := hr vg G' hQ' vm0 n1 ad' T' _ X' hB (Nat.le_trans hn1 hsz') (hA.trans hA' hN) (Nat.le_trans hN hN') hG' (Fr.app hF hF')
  rw [back_frame hA' hsc] at st2
  exact ⟨t, o, st.trans st2, h⟩
theorem Walk.callFace (W : Walk fl tab sig l Z a0 n0 ol own nm bytes maxL ret R Q J) {idx count ci n : Nat} {C : String} {fs : List Fd} {vs : List Value} (hd : decode bytes pc = .ok (.invokeinterface idx count, 5)) (w1 : Jvm.Cond.methodLink own idx z ∈ tab) (w2 : Jvm.Cond.declares z ∈ tab) (w2' : Jvm.Cond.interfaceMethod z.cls z.cls z.name z.desc ∈ tab) (w3 : Jvm.Cond.selects C z y ∈ tab) (w4 : Jvm.Cond.instanceMethod y ∈ tab) (w7 : Jvm.Cond.publicMethod y ∈ tab) (w8 : Jvm.Cond.unhidden C z.name z.desc ∈ tab) (w9 : Jvm.Cond.castable C z.cls ∈ tab) (w5 : Jvm.Cond.initialized y.cls ∈ tab) (w6 : Jvm.Cond.code y bytes' maxL' ret' ∈ tab)
    (hO : G[j]? = some (.inl ci, vs)) (hc : sig[ci]? = some (C, n, fs)) (hM : Meth sig l Z n0 ol y bytes' maxL' ret' R' (.ref j :: as) G Q') (hlen : ∀ sg, parseMethodDescriptor z.desc = some sg → as.length = sg.parameters.length) (hSt : St = as.reverse ++ .ref j :: S) (hsc : (Ls.all (scS G.length) && S.all (sc G.length)) = true) (hsz : Ls.length = maxL) (hf : Nat.ble (R'.frames + 1) R.frames = true) (hl : Nat.ble ((S.map fun v => v.category).sum + (maxL' + 11) + R'.locals) R.locals = true)
    (hk : k + R'.cells ≤ R.cells) (hsl : sl + R'.slots ≤ R.slots) (hr : ∀ v G', Q' v G' → J pc' Ls (v.toList ++ S) G' (k + R'.cells) (sl + R'.slots)) (hp : pc + 5 = pc' := by rfl)
    (hy : z.cls ≠ "java/lang/invoke/MethodHandle" ∧ z.cls ≠ "java/lang/invoke/VarHandle" := by decide) : J pc Ls St G k sl := by
  obtain ⟨ad0, N0, p, e, s, m, args, below, meth, c, rfl, hx, hby, hml, hret, hlk, hnm, hZ0, hown0, hw, hS⟩ := W
  subst hp hSt
  intro vm0 n1 ad T locs X hB hn1 hA hN hG hF
  have hZ : Z.Warmed39 (s.setVm vm0).vm := State.Warmed39.trans hZ0 (isOfB hB)
  have hown : (s.setVm vm0).vm.findClass own = some m.cls := by show vm0.findClass own = _; rw [(isOfB hB).alike.findClass]; exact hown0
  obtain ⟨E, hlen', F⟩ := (hG.2.2.2.2.1 j _ hO (by simp [kn, hc])).1 C n fs hc
  obtain ⟨cq, kq, qa, qb, qc⟩ := isOf hZ rfl E
  obtain ⟨v, vm₁, ⟨T', L', k', n'⟩, -, X', ⟨Lc, ⟨ad', G', vg, rfl, hA', hN', hG', hsc', hQ', hF', hsz'⟩, l1, y1, z1⟩, st⟩ := X.interfaceBack hx (xi := z) (y := y) hown (mvT hZ (hw _ w1)) (mvT hZ (hw _ w2)) (mvT hZ (hw _ w2') (by simp [Cond.onTables, Cond.keepsFace, Cond.faceAtom, hy.1, hy.2])) (mvT hZ (hw _ w3)) (mvT hZ (hw _ w4)) (mvT hZ (hw _ w7)) (mvT hZ (hw _ w8)) (mvT hZ (hw _ w9)) hy
    (backOf (W := (S.map fun v => v.category).sum) (Q := QQ sig Z n0 ol ad T.heap.size G Q') (hM.back hG) hZ (hw _ w6) (hw _ w5) (Nat.le_of_ble_eq_true hf) (Nat.le_of_ble_eq_true hl)) qa qb qc
    (g := mkF m pc (Ls.map (rs ad)).toArray ((as.reverse ++ .ref j :: S).map (rv ad))) rfl (by rw [hml, ← hsz]; simp) (Steps.refl _) (argsL := as.map (rv ad)) (rest := S.map (rv ad)) (fun sg q => by rw [List.length_map]; exact hlen sg q) (by simp [mkF, rv]) (by show 2 * 0 + _ ≤ _; rw [cat_map]; omega) (Jvm.hb hby hd) (fun _ _ => ⟨rfl, rfl, hk, hsl⟩)
  dsimp only [Pt.U, Pt.locs, Pt.cells, Pt.slots] at X' l1 y1 z1 st hG' hsz'
  subst l1 y1 z1
  obtain ⟨t, o, st2, h⟩ := hr vg G' hQ' vm0 n1 ad' T' _ X' hB (Nat.le_trans hn1 hsz') (hA.trans hA' hN) (Nat.le_trans hN hN') hG' (Fr.app hF hF')
  rw [back_frame hA' hsc] at st2
  exact ⟨t, o, st.trans st2, h⟩
theorem Walk.callPrivate (W : Walk fl tab sig l Z a0 n0 ol own nm bytes maxL ret R Q J) {idx ci n : Nat} {C : String} {fs : List Fd} {vs : List Value} (hd : decode bytes pc = .ok (.invokevirtual idx, 3)) (w1 : Jvm.Cond.methodLink own idx y ∈ tab) (w2 : Jvm.Cond.instanceMethod y ∈ tab) (w3 : Jvm.Cond.privateMethod y ∈ tab) (w5 : Jvm.Cond.initialized y.cls ∈ tab) (w6 : Jvm.Cond.code y bytes' maxL' ret' ∈ tab)
    (hO : G[j]? = some (.inl ci, vs)) (hc : sig[ci]? = some (C, n, fs)) (hCy : C = y.cls) (hM : Meth sig l Z n0 ol y bytes' maxL' ret' R' (.ref j :: as) G Q') (hlen : ∀ sg, parseMethodDescriptor y.desc = some sg → as.length = sg.parameters.length) (hSt : St = as.reverse ++ .ref j :: S) (hsc : (Ls.all (scS G.length) && S.all (sc G.length)) = true) (hsz : Ls.length = maxL) (hf : Nat.ble (R'.frames + 1) R.frames = true) (hl : Nat.ble ((S.map fun v => v.category).sum + (maxL' + 11) + R'.locals) R.locals = true)
    (hk : k + R'.cells ≤ R.cells) (hsl : sl + R'.slots ≤ R.slots) (hr : ∀ v G', Q' v G' → J pc' Ls (v.toList ++ S) G' (k + R'.cells) (sl + R'.slots)) (hp : pc + 3 = pc' := by rfl)
    (hy : y.cls ≠ "java/lang/invoke/MethodHandle" ∧ y.cls ≠ "java/lang/invoke/VarHandle" := by decide) : J pc Ls St G k sl := by
  subst hCy
  obtain ⟨ad0, N0, p, e, s, m, args, below, meth, c, rfl, hx, hby, hml, hret, hlk, hnm, hZ0, hown0, hw, hS⟩ := W
  subst hp hSt
  intro vm0 n1 ad T locs X hB hn1 hA hN hG hF
  have hZ : Z.Warmed39 (s.setVm vm0).vm := State.Warmed39.trans hZ0 (isOfB hB)
  have hown : (s.setVm vm0).vm.findClass own = some m.cls := by show vm0.findClass own = _; rw [(isOfB hB).alike.findClass]; exact hown0
  obtain ⟨E, hlen', F⟩ := (hG.2.2.2.2.1 j _ hO (by simp [kn, hc])).1 y.cls n fs hc
  obtain ⟨cq, q1, q2⟩ := E.cell
  have hpv : (s.setVm vm0).PrivateAt y := Cond.privateMethod_at (mvP hZ (hw _ w3) (args := #[]))
  have hin : (Jvm.Cond.instanceMethod y).before args (s.setVm vm0) = true := mvT hZ (hw _ w2)
  have wi : (Jvm.Cond.instantiable y.cls n).before args (s.setVm vm0) = true := mvT hZ (hw _ (hS ci _ n fs hc).1)
  obtain ⟨cc, kc, i1, i2, i3, i4, -⟩ := Cond.instantiable_spec wi
  have i5 : kc.isInterface = false := by
    cases hq : kc.isInterface with
    | false => rfl
    | true => rw [hq] at i4; cases i4
  obtain ⟨v, vm₁, ⟨T', L', k', n'⟩, -, X', ⟨Lc, ⟨ad', G', vg, rfl, hA', hN', hG', hsc', hQ', hF', hsz'⟩, l1, y1, z1⟩, st⟩ := X.privateBack hx (y := y) hown (mvT hZ (hw _ w1)) hin (selects_self_of_private i1 i2 i5 hpv hin hy) hpv (mvT hZ (hw _ w6)) hy
    (backOf (W := (S.map fun v => v.category).sum) (Q := QQ sig Z n0 ol ad T.heap.size G Q') (hM.back hG) hZ (hw _ w6) (hw _ w5) (Nat.le_of_ble_eq_true hf) (Nat.le_of_ble_eq_true hl))
    (g := mkF m pc (Ls.map (rs ad)).toArray ((as.reverse ++ .ref j :: S).map (rv ad))) rfl (by rw [hml, ← hsz]; simp) (Steps.refl _) q1 q2 (argsL := as.map (rv ad)) (rest := S.map (rv ad)) (fun sg q => by rw [List.length_map]; exact hlen sg q) (by simp [mkF, rv]) (by show 2 * 0 + _ ≤ _; rw [cat_map]; omega) (Jvm.hb hby hd) (fun _ _ => ⟨rfl, rfl, hk, hsl⟩)
  dsimp only [Pt.U, Pt.locs, Pt.cells, Pt.slots] at X' l1 y1 z1 st hG' hsz'
  subst l1 y1 z1
  obtain ⟨t, o, st2, h⟩ := hr vg G' hQ' vm0 n1 ad' T' _ X' hB (Nat.le_trans hn1 hsz') (hA.trans hA' hN) (Nat.le_trans hN hN') hG' (Fr.app hF hF')
  rw [back_frame hA' hsc] at st2
  exact ⟨t, o, st.trans st2, h⟩
/-! ## returns -/
theorem Bas.ended {s : State} {vm0 : Vm} {n1 kc ks : Nat} {U : State} {locs : List Loc} {v : Option Value} (hB : Bas fl s vm0 n1) (hn : Nat.le n1 U.heap.size) (hW : (s.setVm vm0).WarmedH U.vm) (hs : (s.setVm vm0).sameButNew ({ U with vm := vm0 } : State) locs kc ks) : EndP fl s (.returned v) U locs kc ks := by
  unfold Bas at hB
  unfold EndP
  split
  · rename_i q
    rw [if_pos q] at hB
    obtain ⟨a1, a2, a3⟩ := State.Since.ended hB hW hn hs
    exact ⟨⟨_, rfl⟩, a1, a2, a3⟩
  · rename_i q
    rw [if_neg q] at hB
    subst hB
    exact ⟨⟨_, rfl⟩, hW, hs⟩
theorem Walk.retV {t : FieldType} (W : Walk fl tab sig l Z a0 n0 ol own nm bytes maxL (some t) R Q J) {i : Instr} (hd : decode bytes pc = .ok (i, 1)) (hn : narrow t v = v)
    (hi : (i = .ireturn ∧ (t = .int ∨ t = .boolean ∨ t = .byte ∨ t = .char ∨ t = .short) ∧ ∃ z, v = .int z) ∨ (i = .areturn ∧ t.isReference = true ∧ v.isRef = true))
    (hsc : sc G.length v = true) (hk : k ≤ R.cells) (hsl : sl ≤ R.slots) (hq : Q (some v) G) : J pc Ls (v :: S) G k sl := by
  obtain ⟨ad0, N0, p, e, s, m, args, below, meth, c, rfl, hx, hby, hml, hret, hlk, hnm, hZ0, hown0, hw, hS⟩ := W
  intro vm0 n1 ad T locs X hB hn1 hA hN hG hF
  obtain ⟨fs, hr, hrun, hended, hW, hsame⟩ := X.leave (v := some (rv ad v)) (fun h => by rw [hret] at h; cases h) hlk
  have hn' : narrow t (rv ad v) = rv ad v := by
    rcases hi with ⟨-, -, z, rfl⟩ | ⟨-, ht, hv⟩
    · exact hn
    · rcases ref_cases hv with rfl | ⟨a, rfl⟩ <;> cases t <;> rfl
  exact ⟨_, _, retOut X hx hret hn' (hi.elim (fun q => Or.inl ⟨q.1, q.2.1, by obtain ⟨z, rfl⟩ := q.2.2; exact ⟨z, rfl⟩⟩) (fun q => Or.inr (Or.inr (Or.inr (Or.inr ⟨q.1, q.2.1, by rw [rv_isRef]; exact q.2.2⟩))))) (Jvm.hb hby hd) hr, hrun, hended, _, _, rfl, ⟨ad, G, some v, rfl, hA, hN, hG, fun w hw' => by cases hw'; exact hsc, hq, hF⟩, Bas.ended hB hn1 hW (hsame.mono hk hsl)⟩
theorem Walk.ireturn (W : Walk fl tab sig l Z a0 n0 ol own nm bytes maxL (some .int) R Q J) {z : Int32} (hd : decode bytes pc = .ok (.ireturn, 1)) (hk : k ≤ R.cells) (hsl : sl ≤ R.slots) (hq : Q (some (.int z)) G) : J pc Ls (.int z :: S) G k sl :=
  W.retV hd rfl (Or.inl ⟨rfl, Or.inl rfl, z, rfl⟩) rfl hk hsl hq
theorem Walk.zreturn (W : Walk fl tab sig l Z a0 n0 ol own nm bytes maxL (some .boolean) R Q J) {z : Int32} (hd : decode bytes pc = .ok (.ireturn, 1)) (hz : z = 0 ∨ z = 1) (hk : k ≤ R.cells) (hsl : sl ≤ R.slots) (hq : Q (some (.int z)) G) : J pc Ls (.int z :: S) G k sl :=
  W.retV hd (by rcases hz with rfl | rfl <;> rfl) (Or.inl ⟨rfl, Or.inr (Or.inl rfl), z, rfl⟩) rfl hk hsl hq
theorem Walk.areturn {t : FieldType} (W : Walk fl tab sig l Z a0 n0 ol own nm bytes maxL (some t) R Q J) (hd : decode bytes pc = .ok (.areturn, 1)) (ht : t.isReference = true) (hv : v.isRef = true) (hsc : sc G.length v = true) (hk : k ≤ R.cells) (hsl : sl ≤ R.slots) (hq : Q (some v) G) : J pc Ls (v :: S) G k sl :=
  W.retV hd (by rcases ref_cases hv with rfl | ⟨a, rfl⟩ <;> cases t <;> rfl) (Or.inr ⟨rfl, ht, hv⟩) hsc hk hsl hq
theorem Walk.return_ (W : Walk fl tab sig l Z a0 n0 ol own nm bytes maxL none R Q J) (hd : decode bytes pc = .ok (.return_, 1)) (hk : k ≤ R.cells) (hsl : sl ≤ R.slots) (hq : Q none G) : J pc Ls [] G k sl := by
  obtain ⟨ad0, N0, p, e, s, m, args, below, meth, c, rfl, hx, hby, hml, hret, hlk, hnm, hZ0, hown0, hw, hS⟩ := W
  intro vm0 n1 ad T locs X hB hn1 hA hN hG hF
  obtain ⟨fs, hr, hrun, hended, hW, hsame⟩ := X.leave (v := none) (fun _ => rfl) hlk
  exact ⟨_, _, X.returnOut hx hret (Jvm.hb hby hd) hr, hrun, hended, _, _, rfl, ⟨ad, G, none, rfl, hA, hN, hG, (fun w hw' => by cases hw'), hq, hF⟩, Bas.ended hB hn1 hW (hsame.mono hk hsl)⟩
end Heap
end Jvm.OwnWR
namespace Jvm.Pilot.@@N@@
open Jvm Jvm.ClassFile Sem Op Lib Jvm.Free Jvm.Stand Jvm.LawKit Jvm.RoadKit Bundle Jvm.OwnWR Jvm.Pilot.@@N@@.Jvm.D
theorem pn_prog_6_method_1_code : plainFor (⟨"com/example/guest_panes/guestpanes/Display", "<init>", "(Ljava/lang/String;III)V"⟩ : MethodName) = true := by first | exact plainFor_of_name (by first | (simp [plainName, overriddenIn]; done) | decide +kernel) | decide +kernel
theorem pn_jdk_38_method_2_code : plainFor (⟨"java/util/ArrayList", "<init>", "()V"⟩ : MethodName) = true := by first | exact plainFor_of_name (by first | (simp [plainName, overriddenIn]; done) | decide +kernel) | decide +kernel
theorem pn_jdk_39_method_1_code : plainFor (⟨"java/util/AbstractList", "<init>", "()V"⟩ : MethodName) = true := by first | exact plainFor_of_name (by first | (simp [plainName, overriddenIn]; done) | decide +kernel) | decide +kernel
theorem pn_jdk_22_method_1_code : plainFor (⟨"java/util/AbstractCollection", "<init>", "()V"⟩ : MethodName) = true := by first | exact plainFor_of_name (by first | (simp [plainName, overriddenIn]; done) | decide +kernel) | decide +kernel
theorem pn_prog_19_method_1_code : plainFor (⟨"com/example/guest_panes/guestpanes/Rect", "<init>", "(IIII)V"⟩ : MethodName) = true := by first | exact plainFor_of_name (by first | (simp [plainName, overriddenIn]; done) | decide +kernel) | decide +kernel
theorem pn_jdk_30_method_1_code : plainFor (⟨"java/lang/Record", "<init>", "()V"⟩ : MethodName) = true := by first | exact plainFor_of_name (by first | (simp [plainName, overriddenIn]; done) | decide +kernel) | decide +kernel
theorem pn_prog_10_method_1_code : plainFor (⟨"com/example/guest_panes/guestpanes/FreeWindow", "<init>", "(Ljava/lang/String;Lcom/example/guest_panes/guestpanes/Display;Lcom/example/guest_panes/guestpanes/Rect;)V"⟩ : MethodName) = true := by first | exact plainFor_of_name (by first | (simp [plainName, overriddenIn]; done) | decide +kernel) | decide +kernel
theorem pn_prog_18_method_1_code : plainFor (⟨"com/example/guest_panes/guestpanes/PaneOwner", "<init>", "(Lcom/example/guest_panes/guestpanes/Display;)V"⟩ : MethodName) = true := by first | exact plainFor_of_name (by first | (simp [plainName, overriddenIn]; done) | decide +kernel) | decide +kernel
theorem pn_prog_6_method_5_code : plainFor (⟨"com/example/guest_panes/guestpanes/Display", "color", "()I"⟩ : MethodName) = true := by first | exact plainFor_of_name (by first | (simp [plainName, overriddenIn]; done) | decide +kernel) | decide +kernel
theorem pn_prog_17_method_1_code : plainFor (⟨"com/example/guest_panes/guestpanes/Pane", "<init>", "(Ljava/lang/String;Lcom/example/guest_panes/guestpanes/PaneOwner;Lcom/example/guest_panes/guestpanes/Rect;I)V"⟩ : MethodName) = true := by first | exact plainFor_of_name (by first | (simp [plainName, overriddenIn]; done) | decide +kernel) | decide +kernel
theorem pn_prog_18_method_9_code : plainFor (⟨"com/example/guest_panes/guestpanes/PaneOwner", "panes", "()Ljava/util/List;"⟩ : MethodName) = true := by first | exact plainFor_of_name (by first | (simp [plainName, overriddenIn]; done) | decide +kernel) | decide +kernel
theorem pn_jdk_38_method_25_code : plainFor (⟨"java/util/ArrayList", "add", "(Ljava/lang/Object;)Z"⟩ : MethodName) = true := by first | exact plainFor_of_name (by first | (simp [plainName, overriddenIn]; done) | decide +kernel) | decide +kernel
theorem pn_jdk_38_method_24_code : plainFor (⟨"java/util/ArrayList", "add", "(Ljava/lang/Object;[Ljava/lang/Object;I)V"⟩ : MethodName) = true := by first | exact plainFor_of_name (by first | (simp [plainName, overriddenIn]; done) | decide +kernel) | decide +kernel
theorem pn_jdk_38_method_7_code : plainFor (⟨"java/util/ArrayList", "grow", "()[Ljava/lang/Object;"⟩ : MethodName) = true := by first | exact plainFor_of_name (by first | (simp [plainName, overriddenIn]; done) | decide +kernel) | decide +kernel
theorem pn_jdk_38_method_6_code : plainFor (⟨"java/util/ArrayList", "grow", "(I)[Ljava/lang/Object;"⟩ : MethodName) = true := by first | exact plainFor_of_name (by first | (simp [plainName, overriddenIn]; done) | decide +kernel) | decide +kernel
theorem pn_jdk_29_method_65_code : plainFor (⟨"java/lang/Math", "max", "(II)I"⟩ : MethodName) = true := by first | exact plainFor_of_name (by first | (simp [plainName, overriddenIn]; done) | decide +kernel) | decide +kernel
theorem pn_prog_10_method_6_code : plainFor (⟨"com/example/guest_panes/guestpanes/FreeWindow", "pairWith", "(Lcom/example/guest_panes/guestpanes/FreeWindow;)V"⟩ : MethodName) = true := by first | exact plainFor_of_name (by first | (simp [plainName, overriddenIn]; done) | decide +kernel) | decide +kernel
theorem pn_method_3_code : plainFor (⟨"com/example/guest_panes/guestpanes/FreeWindowPairWithPinLaw", "check", "(Lcom/example/guest_panes/guestpanes/FreeWindow;Lcom/example/guest_panes/guestpanes/FreeWindow;ZLcom/example/guest_panes/guestpanes/Rect;IIII)Z"⟩ : MethodName) = true := by first | exact plainFor_of_name (by first | (simp [plainName, overriddenIn]; done) | decide +kernel) | decide +kernel
theorem pn_prog_10_method_5_code : plainFor (⟨"com/example/guest_panes/guestpanes/FreeWindow", "partner", "()Lcom/example/guest_panes/guestpanes/FreeWindow;"⟩ : MethodName) = true := by first | exact plainFor_of_name (by first | (simp [plainName, overriddenIn]; done) | decide +kernel) | decide +kernel
theorem pn_prog_10_method_7_code : plainFor (⟨"com/example/guest_panes/guestpanes/FreeWindow", "partnerBounds", "(Lcom/example/guest_panes/guestpanes/Rect;)Lcom/example/guest_panes/guestpanes/Rect;"⟩ : MethodName) = true := by first | exact plainFor_of_name (by first | (simp [plainName, overriddenIn]; done) | decide +kernel) | decide +kernel
theorem pn_prog_10_method_8_code : plainFor (⟨"com/example/guest_panes/guestpanes/FreeWindow", "rightOf", "(Lcom/example/guest_panes/guestpanes/Rect;)Lcom/example/guest_panes/guestpanes/Rect;"⟩ : MethodName) = true := by first | exact plainFor_of_name (by first | (simp [plainName, overriddenIn]; done) | decide +kernel) | decide +kernel
theorem pn_prog_19_method_2_code : plainFor (⟨"com/example/guest_panes/guestpanes/Rect", "width", "()I"⟩ : MethodName) = true := by first | exact plainFor_of_name (by first | (simp [plainName, overriddenIn]; done) | decide +kernel) | decide +kernel
theorem pn_prog_19_method_6_code : plainFor (⟨"com/example/guest_panes/guestpanes/Rect", "offset", "(II)Lcom/example/guest_panes/guestpanes/Rect;"⟩ : MethodName) = true := by first | exact plainFor_of_name (by first | (simp [plainName, overriddenIn]; done) | decide +kernel) | decide +kernel
theorem pn_jdk_29_method_24_code : plainFor (⟨"java/lang/Math", "addExact", "(II)I"⟩ : MethodName) = true := by first | exact plainFor_of_name (by first | (simp [plainName, overriddenIn]; done) | decide +kernel) | decide +kernel
theorem pn_prog_19_method_14_code : plainFor (⟨"com/example/guest_panes/guestpanes/Rect", "left", "()I"⟩ : MethodName) = true := by first | exact plainFor_of_name (by first | (simp [plainName, overriddenIn]; done) | decide +kernel) | decide +kernel
theorem pn_prog_19_method_15_code : plainFor (⟨"com/example/guest_panes/guestpanes/Rect", "top", "()I"⟩ : MethodName) = true := by first | exact plainFor_of_name (by first | (simp [plainName, overriddenIn]; done) | decide +kernel) | decide +kernel
theorem pn_prog_19_method_16_code : plainFor (⟨"com/example/guest_panes/guestpanes/Rect", "right", "()I"⟩ : MethodName) = true := by first | exact plainFor_of_name (by first | (simp [plainName, overriddenIn]; done) | decide +kernel) | decide +kernel
theorem pn_prog_19_method_17_code : plainFor (⟨"com/example/guest_panes/guestpanes/Rect", "bottom", "()I"⟩ : MethodName) = true := by first | exact plainFor_of_name (by first | (simp [plainName, overriddenIn]; done) | decide +kernel) | decide +kernel
theorem pn_code : plainFor x = true := by first | exact plainFor_of_name (by first | (simp [plainName, overriddenIn]; done) | decide +kernel) | decide +kernel
def sg : Sig := [("com/example/guest_panes/guestpanes/Display", 6, [("com/example/guest_panes/guestpanes/Display", "owners", "Ljava/util/List;", (.object "java/util/List")), ("com/example/guest_panes/guestpanes/Display", "id", "Ljava/lang/String;", (.object "java/lang/String")), ("com/example/guest_panes/guestpanes/Display", "width", "I", .int), ("com/example/guest_panes/guestpanes/Display", "height", "I", .int), ("com/example/guest_panes/guestpanes/Display", "color", "I", .int)]), ("java/lang/String", 4, [("java/lang/String", "value", "[B", (.array .byte)), ("java/lang/String", "coder", "B", .byte)]), ("java/util/ArrayList", 3, [("java/util/AbstractList", "modCount", "I", .int), ("java/util/ArrayList", "elementData", "[Ljava/lang/Object;", (.array (.object "java/lang/Object"))), ("java/util/ArrayList", "size", "I", .int)]), ("com/example/guest_panes/guestpanes/Rect", 4, [("com/example/guest_panes/guestpanes/Rect", "left", "I", .int), ("com/example/guest_panes/guestpanes/Rect", "top", "I", .int), ("com/example/guest_panes/guestpanes/Rect", "right", "I", .int), ("com/example/guest_panes/guestpanes/Rect", "bottom", "I", .int)]), ("com/example/guest_panes/guestpanes/FreeWindow", 5, [("com/example/guest_panes/guestpanes/PaneOwner", "panes", "Ljava/util/List;", (.object "java/util/List")), ("com/example/guest_panes/guestpanes/PaneOwner", "display", "Lcom/example/guest_panes/guestpanes/Display;", (.object "com/example/guest_panes/guestpanes/Display")), ("com/example/guest_panes/guestpanes/FreeWindow", "pane", "Lcom/example/guest_panes/guestpanes/Pane;", (.object "com/example/guest_panes/guestpanes/Pane")), ("com/example/guest_panes/guestpanes/FreeWindow", "partner", "Lcom/example/guest_panes/guestpanes/FreeWindow;", (.object "com/example/guest_panes/guestpanes/FreeWindow")), ("com/example/guest_panes/guestpanes/FreeWindow", "main", "Z", .boolean)]), ("com/example/guest_panes/guestpanes/Pane", 8, [("com/example/guest_panes/guestpanes/Pane", "id", "Ljava/lang/String;", (.object "java/lang/String")), ("com/example/guest_panes/guestpanes/Pane", "owner", "Lcom/example/guest_panes/guestpanes/PaneOwner;", (.object "com/example/guest_panes/guestpanes/PaneOwner")), ("com/example/guest_panes/guestpanes/Pane", "bounds", "Lcom/example/guest_panes/guestpanes/Rect;", (.object "com/example/guest_panes/guestpanes/Rect")), ("com/example/guest_panes/guestpanes/Pane", "placeholder", "I", .int)])]
theorem sgOk : SigOk tables_1 sg := by
  intro ci C n fs h
  cases ci with
  | zero =>
    cases h
    refine ⟨(tw 2 rfl), ?_, by decide⟩
    intro f hf
    simp only [List.mem_cons, List.not_mem_nil, or_false] at hf
    rcases hf with rfl | rfl | rfl | rfl | rfl
    · exact ⟨Or.inr (tw 43 rfl), by decide⟩
    · exact ⟨Or.inr (tw 45 rfl), by decide⟩
    · exact ⟨Or.inr (tw 47 rfl), by decide⟩
    · exact ⟨Or.inr (tw 49 rfl), by decide⟩
    · exact ⟨Or.inr (tw 51 rfl), by decide⟩
  | succ ci =>
    cases ci with
    | zero =>
      cases h
      refine ⟨(tw 6 rfl), ?_, by decide⟩
      intro f hf
      simp only [List.mem_cons, List.not_mem_nil, or_false] at hf
      rcases hf with rfl | rfl
      · exact ⟨Or.inr (tw 8 rfl), by decide⟩
      · exact ⟨Or.inr (tw 9 rfl), by decide⟩
    | succ ci =>
      cases ci with
      | zero =>
        cases h
        refine ⟨(tw 19 rfl), ?_, by decide⟩
        intro f hf
        simp only [List.mem_cons, List.not_mem_nil, or_false] at hf
        rcases hf with rfl | rfl | rfl
        · exact ⟨Or.inl (tw 38 rfl), by decide⟩
        · exact ⟨Or.inl (tw 41 rfl), by decide⟩
        · exact ⟨Or.inl (tw 132 rfl), by decide⟩
      | succ ci =>
        cases ci with
        | zero =>
          cases h
          refine ⟨(tw 53 rfl), ?_, by decide⟩
          intro f hf
          simp only [List.mem_cons, List.not_mem_nil, or_false] at hf
          rcases hf with rfl | rfl | rfl | rfl
          · exact ⟨Or.inr (tw 66 rfl), by decide⟩
          · exact ⟨Or.inr (tw 68 rfl), by decide⟩
          · exact ⟨Or.inr (tw 70 rfl), by decide⟩
          · exact ⟨Or.inr (tw 72 rfl), by decide⟩
        | succ ci =>
          cases ci with
          | zero =>
            cases h
            refine ⟨(tw 74 rfl), ?_, by decide⟩
            intro f hf
            simp only [List.mem_cons, List.not_mem_nil, or_false] at hf
            rcases hf with rfl | rfl | rfl | rfl | rfl
            · exact ⟨Or.inr (tw 89 rfl), by decide⟩
            · exact ⟨Or.inr (tw 91 rfl), by decide⟩
            · exact ⟨Or.inr (tw 113 rfl), by decide⟩
            · exact ⟨Or.inl (tw 163 rfl), by decide⟩
            · exact ⟨Or.inl (tw 165 rfl), by decide⟩
          | succ ci =>
            cases ci with
            | zero =>
              cases h
              refine ⟨(tw 93 rfl), ?_, by decide⟩
              intro f hf
              simp only [List.mem_cons, List.not_mem_nil, or_false] at hf
              rcases hf with rfl | rfl | rfl | rfl
              · exact ⟨Or.inr (tw 105 rfl), by decide⟩
              · exact ⟨Or.inr (tw 107 rfl), by decide⟩
              · exact ⟨Or.inl (tw 109 rfl), by decide⟩
              · exact ⟨Or.inr (tw 111 rfl), by decide⟩
            | succ ci =>
              cases h
theorem pd0 : parseMethodDescriptor "()V" = some ⟨[], none⟩ := by decide +kernel
theorem pd1 : parseMethodDescriptor "(II)I" = some ⟨[.int, .int], some .int⟩ := by decide +kernel
theorem pd2 : parseMethodDescriptor "(IIII)V" = some ⟨[.int, .int, .int, .int], none⟩ := by decide +kernel
theorem pd3 : parseMethodDescriptor "()I" = some ⟨[], some .int⟩ := by decide +kernel
theorem pd4 : parseMethodDescriptor "(II)Lcom/example/guest_panes/guestpanes/Rect;" = some ⟨[.int, .int], some (.object "com/example/guest_panes/guestpanes/Rect")⟩ := by decide +kernel
theorem pd5 : parseMethodDescriptor "(Lcom/example/guest_panes/guestpanes/Rect;)Lcom/example/guest_panes/guestpanes/Rect;" = some ⟨[(.object "com/example/guest_panes/guestpanes/Rect")], some (.object "com/example/guest_panes/guestpanes/Rect")⟩ := by decide +kernel
theorem pd6 : parseMethodDescriptor "()Lcom/example/guest_panes/guestpanes/FreeWindow;" = some ⟨[], some (.object "com/example/guest_panes/guestpanes/FreeWindow")⟩ := by decide +kernel
theorem pd7 : parseMethodDescriptor "(I)[Ljava/lang/Object;" = some ⟨[.int], some (.array (.object "java/lang/Object"))⟩ := by decide +kernel
theorem pd8 : parseMethodDescriptor "()[Ljava/lang/Object;" = some ⟨[], some (.array (.object "java/lang/Object"))⟩ := by decide +kernel
theorem pd9 : parseMethodDescriptor "(Ljava/lang/Object;[Ljava/lang/Object;I)V" = some ⟨[(.object "java/lang/Object"), (.array (.object "java/lang/Object")), .int], none⟩ := by decide +kernel
theorem pd10 : parseMethodDescriptor "(Lcom/example/guest_panes/guestpanes/Display;)V" = some ⟨[(.object "com/example/guest_panes/guestpanes/Display")], none⟩ := by decide +kernel
theorem pd11 : parseMethodDescriptor "(Ljava/lang/String;Lcom/example/guest_panes/guestpanes/PaneOwner;Lcom/example/guest_panes/guestpanes/Rect;I)V" = some ⟨[(.object "java/lang/String"), (.object "com/example/guest_panes/guestpanes/PaneOwner"), (.object "com/example/guest_panes/guestpanes/Rect"), .int], none⟩ := by decide +kernel
theorem pd12 : parseMethodDescriptor "()Ljava/util/List;" = some ⟨[], some (.object "java/util/List")⟩ := by decide +kernel
theorem pd13 : parseMethodDescriptor "(Ljava/lang/Object;)Z" = some ⟨[(.object "java/lang/Object")], some .boolean⟩ := by decide +kernel
theorem pd14 : parseMethodDescriptor "(Ljava/lang/String;III)V" = some ⟨[(.object "java/lang/String"), .int, .int, .int], none⟩ := by decide +kernel
theorem pd15 : parseMethodDescriptor "(Ljava/lang/String;Lcom/example/guest_panes/guestpanes/Display;Lcom/example/guest_panes/guestpanes/Rect;)V" = some ⟨[(.object "java/lang/String"), (.object "com/example/guest_panes/guestpanes/Display"), (.object "com/example/guest_panes/guestpanes/Rect")], none⟩ := by decide +kernel
theorem pd16 : parseMethodDescriptor "(Lcom/example/guest_panes/guestpanes/FreeWindow;)V" = some ⟨[(.object "com/example/guest_panes/guestpanes/FreeWindow")], none⟩ := by decide +kernel
theorem pd17 : parseMethodDescriptor "(Lcom/example/guest_panes/guestpanes/FreeWindow;Lcom/example/guest_panes/guestpanes/FreeWindow;ZLcom/example/guest_panes/guestpanes/Rect;IIII)Z" = some ⟨[(.object "com/example/guest_panes/guestpanes/FreeWindow"), (.object "com/example/guest_panes/guestpanes/FreeWindow"), .boolean, (.object "com/example/guest_panes/guestpanes/Rect"), .int, .int, .int, .int], some .boolean⟩ := by decide +kernel
theorem d_prog_6_method_1_code_0 : decode prog_6_method_1_code 0 = .ok (.aload_n 0, 1) := by decide +kernel
theorem d_prog_6_method_1_code_1 : decode prog_6_method_1_code 1 = .ok (.invokespecial 1, 3) := by decide +kernel
theorem d_prog_6_method_1_code_4 : decode prog_6_method_1_code 4 = .ok (.aload_n 0, 1) := by decide +kernel
theorem d_prog_6_method_1_code_5 : decode prog_6_method_1_code 5 = .ok (.new 7, 3) := by decide +kernel
theorem d_prog_6_method_1_code_8 : decode prog_6_method_1_code 8 = .ok (.dup, 1) := by decide +kernel
theorem d_prog_6_method_1_code_9 : decode prog_6_method_1_code 9 = .ok (.invokespecial 9, 3) := by decide +kernel
theorem d_prog_6_method_1_code_12 : decode prog_6_method_1_code 12 = .ok (.putfield 10, 3) := by decide +kernel
theorem d_prog_6_method_1_code_15 : decode prog_6_method_1_code 15 = .ok (.aload_n 0, 1) := by decide +kernel
theorem d_prog_6_method_1_code_16 : decode prog_6_method_1_code 16 = .ok (.aload_n 1, 1) := by decide +kernel
theorem d_prog_6_method_1_code_17 : decode prog_6_method_1_code 17 = .ok (.putfield 16, 3) := by decide +kernel
theorem d_prog_6_method_1_code_20 : decode prog_6_method_1_code 20 = .ok (.aload_n 0, 1) := by decide +kernel
theorem d_prog_6_method_1_code_21 : decode prog_6_method_1_code 21 = .ok (.iload_n 2, 1) := by decide +kernel
theorem d_prog_6_method_1_code_22 : decode prog_6_method_1_code 22 = .ok (.putfield 20, 3) := by decide +kernel
theorem d_prog_6_method_1_code_25 : decode prog_6_method_1_code 25 = .ok (.aload_n 0, 1) := by decide +kernel
theorem d_prog_6_method_1_code_26 : decode prog_6_method_1_code 26 = .ok (.iload_n 3, 1) := by decide +kernel
theorem d_prog_6_method_1_code_27 : decode prog_6_method_1_code 27 = .ok (.putfield 24, 3) := by decide +kernel
theorem d_prog_6_method_1_code_30 : decode prog_6_method_1_code 30 = .ok (.aload_n 0, 1) := by decide +kernel
theorem d_prog_6_method_1_code_31 : decode prog_6_method_1_code 31 = .ok (.iload 4, 2) := by decide +kernel
theorem d_prog_6_method_1_code_33 : decode prog_6_method_1_code 33 = .ok (.putfield 27, 3) := by decide +kernel
theorem d_prog_6_method_1_code_36 : decode prog_6_method_1_code 36 = .ok (.return_, 1) := by decide +kernel
theorem d_jdk_38_method_2_code_0 : decode jdk_38_method_2_code 0 = .ok (.aload_n 0, 1) := by decide +kernel
theorem d_jdk_38_method_2_code_1 : decode jdk_38_method_2_code 1 = .ok (.invokespecial 1, 3) := by decide +kernel
theorem d_jdk_38_method_2_code_4 : decode jdk_38_method_2_code 4 = .ok (.aload_n 0, 1) := by decide +kernel
theorem d_jdk_38_method_2_code_5 : decode jdk_38_method_2_code 5 = .ok (.getstatic 39, 3) := by decide +kernel
theorem d_jdk_38_method_2_code_8 : decode jdk_38_method_2_code 8 = .ok (.putfield 9, 3) := by decide +kernel
theorem d_jdk_38_method_2_code_11 : decode jdk_38_method_2_code 11 = .ok (.return_, 1) := by decide +kernel
theorem d_jdk_39_method_1_code_0 : decode jdk_39_method_1_code 0 = .ok (.aload_n 0, 1) := by decide +kernel
theorem d_jdk_39_method_1_code_1 : decode jdk_39_method_1_code 1 = .ok (.invokespecial 1, 3) := by decide +kernel
theorem d_jdk_39_method_1_code_4 : decode jdk_39_method_1_code 4 = .ok (.aload_n 0, 1) := by decide +kernel
theorem d_jdk_39_method_1_code_5 : decode jdk_39_method_1_code 5 = .ok (.iconst 0, 1) := by decide +kernel
theorem d_jdk_39_method_1_code_6 : decode jdk_39_method_1_code 6 = .ok (.putfield 7, 3) := by decide +kernel
theorem d_jdk_39_method_1_code_9 : decode jdk_39_method_1_code 9 = .ok (.return_, 1) := by decide +kernel
theorem d_jdk_22_method_1_code_0 : decode jdk_22_method_1_code 0 = .ok (.aload_n 0, 1) := by decide +kernel
theorem d_jdk_22_method_1_code_1 : decode jdk_22_method_1_code 1 = .ok (.invokespecial 1, 3) := by decide +kernel
theorem d_jdk_22_method_1_code_4 : decode jdk_22_method_1_code 4 = .ok (.return_, 1) := by decide +kernel
theorem d_prog_19_method_1_code_0 : decode prog_19_method_1_code 0 = .ok (.aload_n 0, 1) := by decide +kernel
theorem d_prog_19_method_1_code_1 : decode prog_19_method_1_code 1 = .ok (.invokespecial 1, 3) := by decide +kernel
theorem d_prog_19_method_1_code_4 : decode prog_19_method_1_code 4 = .ok (.iload_n 3, 1) := by decide +kernel
theorem d_prog_19_method_1_code_5 : decode prog_19_method_1_code 5 = .ok (.iload_n 1, 1) := by decide +kernel
theorem d_prog_19_method_1_code_6 : decode prog_19_method_1_code 6 = .ok (.if_icmp .lt 9, 3) := by decide +kernel
theorem d_prog_19_method_1_code_9 : decode prog_19_method_1_code 9 = .ok (.iload 4, 2) := by decide +kernel
theorem d_prog_19_method_1_code_11 : decode prog_19_method_1_code 11 = .ok (.iload_n 2, 1) := by decide +kernel
theorem d_prog_19_method_1_code_12 : decode prog_19_method_1_code 12 = .ok (.if_icmp .ge 24, 3) := by decide +kernel
theorem d_prog_19_method_1_code_15 : decode prog_19_method_1_code 15 = .ok (.new 7, 3) := by decide +kernel
theorem d_prog_19_method_1_code_18 : decode prog_19_method_1_code 18 = .ok (.dup, 1) := by decide +kernel
theorem d_prog_19_method_1_code_19 : decode prog_19_method_1_code 19 = .ok (.iload_n 1, 1) := by decide +kernel
theorem d_prog_19_method_1_code_20 : decode prog_19_method_1_code 20 = .ok (.iload_n 2, 1) := by decide +kernel
theorem d_prog_19_method_1_code_21 : decode prog_19_method_1_code 21 = .ok (.iload_n 3, 1) := by decide +kernel
theorem d_prog_19_method_1_code_22 : decode prog_19_method_1_code 22 = .ok (.iload 4, 2) := by decide +kernel
theorem d_prog_19_method_1_code_24 : decode prog_19_method_1_code 24 = .ok (.invokestatic 9, 3) := by decide +kernel
theorem d_prog_19_method_1_code_27 : decode prog_19_method_1_code 27 = .ok (.invokedynamic 15, 5) := by decide +kernel
theorem d_prog_19_method_1_code_32 : decode prog_19_method_1_code 32 = .ok (.invokespecial 19, 3) := by decide +kernel
theorem d_prog_19_method_1_code_35 : decode prog_19_method_1_code 35 = .ok (.athrow, 1) := by decide +kernel
theorem d_prog_19_method_1_code_36 : decode prog_19_method_1_code 36 = .ok (.iload_n 3, 1) := by decide +kernel
theorem d_prog_19_method_1_code_37 : decode prog_19_method_1_code 37 = .ok (.i2l, 1) := by decide +kernel
theorem d_prog_19_method_1_code_38 : decode prog_19_method_1_code 38 = .ok (.iload_n 1, 1) := by decide +kernel
theorem d_prog_19_method_1_code_39 : decode prog_19_method_1_code 39 = .ok (.i2l, 1) := by decide +kernel
theorem d_prog_19_method_1_code_40 : decode prog_19_method_1_code 40 = .ok (.lsub, 1) := by decide +kernel
theorem d_prog_19_method_1_code_41 : decode prog_19_method_1_code 41 = .ok (.ldc2_w 24, 3) := by decide +kernel
theorem d_prog_19_method_1_code_44 : decode prog_19_method_1_code 44 = .ok (.lcmp, 1) := by decide +kernel
theorem d_prog_19_method_1_code_45 : decode prog_19_method_1_code 45 = .ok (.ifCond .gt 16, 3) := by decide +kernel
theorem d_prog_19_method_1_code_48 : decode prog_19_method_1_code 48 = .ok (.iload 4, 2) := by decide +kernel
theorem d_prog_19_method_1_code_50 : decode prog_19_method_1_code 50 = .ok (.i2l, 1) := by decide +kernel
theorem d_prog_19_method_1_code_51 : decode prog_19_method_1_code 51 = .ok (.iload_n 2, 1) := by decide +kernel
theorem d_prog_19_method_1_code_52 : decode prog_19_method_1_code 52 = .ok (.i2l, 1) := by decide +kernel
theorem d_prog_19_method_1_code_53 : decode prog_19_method_1_code 53 = .ok (.lsub, 1) := by decide +kernel
theorem d_prog_19_method_1_code_54 : decode prog_19_method_1_code 54 = .ok (.ldc2_w 24, 3) := by decide +kernel
theorem d_prog_19_method_1_code_57 : decode prog_19_method_1_code 57 = .ok (.lcmp, 1) := by decide +kernel
theorem d_prog_19_method_1_code_58 : decode prog_19_method_1_code 58 = .ok (.ifCond .le 24, 3) := by decide +kernel
theorem d_prog_19_method_1_code_61 : decode prog_19_method_1_code 61 = .ok (.new 7, 3) := by decide +kernel
theorem d_prog_19_method_1_code_64 : decode prog_19_method_1_code 64 = .ok (.dup, 1) := by decide +kernel
theorem d_prog_19_method_1_code_65 : decode prog_19_method_1_code 65 = .ok (.iload_n 1, 1) := by decide +kernel
theorem d_prog_19_method_1_code_66 : decode prog_19_method_1_code 66 = .ok (.iload_n 2, 1) := by decide +kernel
theorem d_prog_19_method_1_code_67 : decode prog_19_method_1_code 67 = .ok (.iload_n 3, 1) := by decide +kernel
theorem d_prog_19_method_1_code_68 : decode prog_19_method_1_code 68 = .ok (.iload 4, 2) := by decide +kernel
theorem d_prog_19_method_1_code_70 : decode prog_19_method_1_code 70 = .ok (.invokestatic 9, 3) := by decide +kernel
theorem d_prog_19_method_1_code_73 : decode prog_19_method_1_code 73 = .ok (.invokedynamic 26, 5) := by decide +kernel
theorem d_prog_19_method_1_code_78 : decode prog_19_method_1_code 78 = .ok (.invokespecial 19, 3) := by decide +kernel
theorem d_prog_19_method_1_code_81 : decode prog_19_method_1_code 81 = .ok (.athrow, 1) := by decide +kernel
theorem d_prog_19_method_1_code_82 : decode prog_19_method_1_code 82 = .ok (.aload_n 0, 1) := by decide +kernel
theorem d_prog_19_method_1_code_83 : decode prog_19_method_1_code 83 = .ok (.iload_n 1, 1) := by decide +kernel
theorem d_prog_19_method_1_code_84 : decode prog_19_method_1_code 84 = .ok (.putfield 27, 3) := by decide +kernel
theorem d_prog_19_method_1_code_87 : decode prog_19_method_1_code 87 = .ok (.aload_n 0, 1) := by decide +kernel
theorem d_prog_19_method_1_code_88 : decode prog_19_method_1_code 88 = .ok (.iload_n 2, 1) := by decide +kernel
theorem d_prog_19_method_1_code_89 : decode prog_19_method_1_code 89 = .ok (.putfield 31, 3) := by decide +kernel
theorem d_prog_19_method_1_code_92 : decode prog_19_method_1_code 92 = .ok (.aload_n 0, 1) := by decide +kernel
theorem d_prog_19_method_1_code_93 : decode prog_19_method_1_code 93 = .ok (.iload_n 3, 1) := by decide +kernel
theorem d_prog_19_method_1_code_94 : decode prog_19_method_1_code 94 = .ok (.putfield 34, 3) := by decide +kernel
theorem d_prog_19_method_1_code_97 : decode prog_19_method_1_code 97 = .ok (.aload_n 0, 1) := by decide +kernel
theorem d_prog_19_method_1_code_98 : decode prog_19_method_1_code 98 = .ok (.iload 4, 2) := by decide +kernel
theorem d_prog_19_method_1_code_100 : decode prog_19_method_1_code 100 = .ok (.putfield 37, 3) := by decide +kernel
theorem d_prog_19_method_1_code_103 : decode prog_19_method_1_code 103 = .ok (.return_, 1) := by decide +kernel
theorem d_jdk_30_method_1_code_0 : decode jdk_30_method_1_code 0 = .ok (.aload_n 0, 1) := by decide +kernel
theorem d_jdk_30_method_1_code_1 : decode jdk_30_method_1_code 1 = .ok (.invokespecial 1, 3) := by decide +kernel
theorem d_jdk_30_method_1_code_4 : decode jdk_30_method_1_code 4 = .ok (.return_, 1) := by decide +kernel
theorem d_prog_10_method_1_code_0 : decode prog_10_method_1_code 0 = .ok (.aload_n 0, 1) := by decide +kernel
theorem d_prog_10_method_1_code_1 : decode prog_10_method_1_code 1 = .ok (.aload_n 2, 1) := by decide +kernel
theorem d_prog_10_method_1_code_2 : decode prog_10_method_1_code 2 = .ok (.invokespecial 1, 3) := by decide +kernel
theorem d_prog_10_method_1_code_5 : decode prog_10_method_1_code 5 = .ok (.aload_n 0, 1) := by decide +kernel
theorem d_prog_10_method_1_code_6 : decode prog_10_method_1_code 6 = .ok (.new 7, 3) := by decide +kernel
theorem d_prog_10_method_1_code_9 : decode prog_10_method_1_code 9 = .ok (.dup, 1) := by decide +kernel
theorem d_prog_10_method_1_code_10 : decode prog_10_method_1_code 10 = .ok (.aload_n 1, 1) := by decide +kernel
theorem d_prog_10_method_1_code_11 : decode prog_10_method_1_code 11 = .ok (.aload_n 0, 1) := by decide +kernel
theorem d_prog_10_method_1_code_12 : decode prog_10_method_1_code 12 = .ok (.aload_n 3, 1) := by decide +kernel
theorem d_prog_10_method_1_code_13 : decode prog_10_method_1_code 13 = .ok (.aload_n 2, 1) := by decide +kernel
theorem d_prog_10_method_1_code_14 : decode prog_10_method_1_code 14 = .ok (.invokevirtual 9, 3) := by decide +kernel
theorem d_prog_10_method_1_code_17 : decode prog_10_method_1_code 17 = .ok (.invokespecial 15, 3) := by decide +kernel
theorem d_prog_10_method_1_code_20 : decode prog_10_method_1_code 20 = .ok (.putfield 18, 3) := by decide +kernel
theorem d_prog_10_method_1_code_23 : decode prog_10_method_1_code 23 = .ok (.aload_n 0, 1) := by decide +kernel
theorem d_prog_10_method_1_code_24 : decode prog_10_method_1_code 24 = .ok (.invokevirtual 24, 3) := by decide +kernel
theorem d_prog_10_method_1_code_27 : decode prog_10_method_1_code 27 = .ok (.aload_n 0, 1) := by decide +kernel
theorem d_prog_10_method_1_code_28 : decode prog_10_method_1_code 28 = .ok (.getfield 18, 3) := by decide +kernel
theorem d_prog_10_method_1_code_31 : decode prog_10_method_1_code 31 = .ok (.invokeinterface 28 2, 5) := by decide +kernel
theorem d_prog_10_method_1_code_36 : decode prog_10_method_1_code 36 = .ok (.pop, 1) := by decide +kernel
theorem d_prog_10_method_1_code_37 : decode prog_10_method_1_code 37 = .ok (.return_, 1) := by decide +kernel
theorem d_prog_18_method_1_code_0 : decode prog_18_method_1_code 0 = .ok (.aload_n 0, 1) := by decide +kernel
theorem d_prog_18_method_1_code_1 : decode prog_18_method_1_code 1 = .ok (.invokespecial 1, 3) := by decide +kernel
theorem d_prog_18_method_1_code_4 : decode prog_18_method_1_code 4 = .ok (.aload_n 0, 1) := by decide +kernel
theorem d_prog_18_method_1_code_5 : decode prog_18_method_1_code 5 = .ok (.new 7, 3) := by decide +kernel
theorem d_prog_18_method_1_code_8 : decode prog_18_method_1_code 8 = .ok (.dup, 1) := by decide +kernel
theorem d_prog_18_method_1_code_9 : decode prog_18_method_1_code 9 = .ok (.invokespecial 9, 3) := by decide +kernel
theorem d_prog_18_method_1_code_12 : decode prog_18_method_1_code 12 = .ok (.putfield 10, 3) := by decide +kernel
theorem d_prog_18_method_1_code_15 : decode prog_18_method_1_code 15 = .ok (.aload_n 0, 1) := by decide +kernel
theorem d_prog_18_method_1_code_16 : decode prog_18_method_1_code 16 = .ok (.aload_n 1, 1) := by decide +kernel
theorem d_prog_18_method_1_code_17 : decode prog_18_method_1_code 17 = .ok (.putfield 16, 3) := by decide +kernel
theorem d_prog_18_method_1_code_20 : decode prog_18_method_1_code 20 = .ok (.return_, 1) := by decide +kernel
theorem d_prog_6_method_5_code_0 : decode prog_6_method_5_code 0 = .ok (.aload_n 0, 1) := by decide +kernel
theorem d_prog_6_method_5_code_1 : decode prog_6_method_5_code 1 = .ok (.getfield 27, 3) := by decide +kernel
theorem d_prog_6_method_5_code_4 : decode prog_6_method_5_code 4 = .ok (.ireturn, 1) := by decide +kernel
theorem d_prog_17_method_1_code_0 : decode prog_17_method_1_code 0 = .ok (.aload_n 0, 1) := by decide +kernel
theorem d_prog_17_method_1_code_1 : decode prog_17_method_1_code 1 = .ok (.invokespecial 1, 3) := by decide +kernel
theorem d_prog_17_method_1_code_4 : decode prog_17_method_1_code 4 = .ok (.aload_n 0, 1) := by decide +kernel
theorem d_prog_17_method_1_code_5 : decode prog_17_method_1_code 5 = .ok (.aload_n 1, 1) := by decide +kernel
theorem d_prog_17_method_1_code_6 : decode prog_17_method_1_code 6 = .ok (.putfield 7, 3) := by decide +kernel
theorem d_prog_17_method_1_code_9 : decode prog_17_method_1_code 9 = .ok (.aload_n 0, 1) := by decide +kernel
theorem d_prog_17_method_1_code_10 : decode prog_17_method_1_code 10 = .ok (.aload_n 2, 1) := by decide +kernel
theorem d_prog_17_method_1_code_11 : decode prog_17_method_1_code 11 = .ok (.putfield 13, 3) := by decide +kernel
theorem d_prog_17_method_1_code_14 : decode prog_17_method_1_code 14 = .ok (.aload_n 0, 1) := by decide +kernel
theorem d_prog_17_method_1_code_15 : decode prog_17_method_1_code 15 = .ok (.aload_n 3, 1) := by decide +kernel
theorem d_prog_17_method_1_code_16 : decode prog_17_method_1_code 16 = .ok (.putfield 17, 3) := by decide +kernel
theorem d_prog_17_method_1_code_19 : decode prog_17_method_1_code 19 = .ok (.aload_n 0, 1) := by decide +kernel
theorem d_prog_17_method_1_code_20 : decode prog_17_method_1_code 20 = .ok (.iload 4, 2) := by decide +kernel
theorem d_prog_17_method_1_code_22 : decode prog_17_method_1_code 22 = .ok (.putfield 21, 3) := by decide +kernel
theorem d_prog_17_method_1_code_25 : decode prog_17_method_1_code 25 = .ok (.return_, 1) := by decide +kernel
theorem d_prog_18_method_9_code_0 : decode prog_18_method_9_code 0 = .ok (.aload_n 0, 1) := by decide +kernel
theorem d_prog_18_method_9_code_1 : decode prog_18_method_9_code 1 = .ok (.getfield 10, 3) := by decide +kernel
theorem d_prog_18_method_9_code_4 : decode prog_18_method_9_code 4 = .ok (.areturn, 1) := by decide +kernel
theorem d_jdk_38_method_25_code_0 : decode jdk_38_method_25_code 0 = .ok (.aload_n 0, 1) := by decide +kernel
theorem d_jdk_38_method_25_code_1 : decode jdk_38_method_25_code 1 = .ok (.dup, 1) := by decide +kernel
theorem d_jdk_38_method_25_code_2 : decode jdk_38_method_25_code 2 = .ok (.getfield 63, 3) := by decide +kernel
theorem d_jdk_38_method_25_code_5 : decode jdk_38_method_25_code 5 = .ok (.iconst 1, 1) := by decide +kernel
theorem d_jdk_38_method_25_code_6 : decode jdk_38_method_25_code 6 = .ok (.iadd, 1) := by decide +kernel
theorem d_jdk_38_method_25_code_7 : decode jdk_38_method_25_code 7 = .ok (.putfield 63, 3) := by decide +kernel
theorem d_jdk_38_method_25_code_10 : decode jdk_38_method_25_code 10 = .ok (.aload_n 0, 1) := by decide +kernel
theorem d_jdk_38_method_25_code_11 : decode jdk_38_method_25_code 11 = .ok (.aload_n 1, 1) := by decide +kernel
theorem d_jdk_38_method_25_code_12 : decode jdk_38_method_25_code 12 = .ok (.aload_n 0, 1) := by decide +kernel
theorem d_jdk_38_method_25_code_13 : decode jdk_38_method_25_code 13 = .ok (.getfield 9, 3) := by decide +kernel
theorem d_jdk_38_method_25_code_16 : decode jdk_38_method_25_code 16 = .ok (.aload_n 0, 1) := by decide +kernel
theorem d_jdk_38_method_25_code_17 : decode jdk_38_method_25_code 17 = .ok (.getfield 48, 3) := by decide +kernel
theorem d_jdk_38_method_25_code_20 : decode jdk_38_method_25_code 20 = .ok (.invokevirtual 131, 3) := by decide +kernel
theorem d_jdk_38_method_25_code_23 : decode jdk_38_method_25_code 23 = .ok (.iconst 1, 1) := by decide +kernel
theorem d_jdk_38_method_25_code_24 : decode jdk_38_method_25_code 24 = .ok (.ireturn, 1) := by decide +kernel
theorem d_jdk_38_method_24_code_0 : decode jdk_38_method_24_code 0 = .ok (.iload_n 3, 1) := by decide +kernel
theorem d_jdk_38_method_24_code_1 : decode jdk_38_method_24_code 1 = .ok (.aload_n 2, 1) := by decide +kernel
theorem d_jdk_38_method_24_code_2 : decode jdk_38_method_24_code 2 = .ok (.arraylength, 1) := by decide +kernel
theorem d_jdk_38_method_24_code_3 : decode jdk_38_method_24_code 3 = .ok (.if_icmp .ne 8, 3) := by decide +kernel
theorem d_jdk_38_method_24_code_6 : decode jdk_38_method_24_code 6 = .ok (.aload_n 0, 1) := by decide +kernel
theorem d_jdk_38_method_24_code_7 : decode jdk_38_method_24_code 7 = .ok (.invokevirtual 129, 3) := by decide +kernel
theorem d_jdk_38_method_24_code_10 : decode jdk_38_method_24_code 10 = .ok (.astore_n 2, 1) := by decide +kernel
theorem d_jdk_38_method_24_code_11 : decode jdk_38_method_24_code 11 = .ok (.aload_n 2, 1) := by decide +kernel
theorem d_jdk_38_method_24_code_12 : decode jdk_38_method_24_code 12 = .ok (.iload_n 3, 1) := by decide +kernel
theorem d_jdk_38_method_24_code_13 : decode jdk_38_method_24_code 13 = .ok (.aload_n 1, 1) := by decide +kernel
theorem d_jdk_38_method_24_code_14 : decode jdk_38_method_24_code 14 = .ok (.aastore, 1) := by decide +kernel
theorem d_jdk_38_method_24_code_15 : decode jdk_38_method_24_code 15 = .ok (.aload_n 0, 1) := by decide +kernel
theorem d_jdk_38_method_24_code_16 : decode jdk_38_method_24_code 16 = .ok (.iload_n 3, 1) := by decide +kernel
theorem d_jdk_38_method_24_code_17 : decode jdk_38_method_24_code 17 = .ok (.iconst 1, 1) := by decide +kernel
theorem d_jdk_38_method_24_code_18 : decode jdk_38_method_24_code 18 = .ok (.iadd, 1) := by decide +kernel
theorem d_jdk_38_method_24_code_19 : decode jdk_38_method_24_code 19 = .ok (.putfield 48, 3) := by decide +kernel
theorem d_jdk_38_method_24_code_22 : decode jdk_38_method_24_code 22 = .ok (.return_, 1) := by decide +kernel
theorem d_jdk_38_method_7_code_0 : decode jdk_38_method_7_code 0 = .ok (.aload_n 0, 1) := by decide +kernel
theorem d_jdk_38_method_7_code_1 : decode jdk_38_method_7_code 1 = .ok (.aload_n 0, 1) := by decide +kernel
theorem d_jdk_38_method_7_code_2 : decode jdk_38_method_7_code 2 = .ok (.getfield 48, 3) := by decide +kernel
theorem d_jdk_38_method_7_code_5 : decode jdk_38_method_7_code 5 = .ok (.iconst 1, 1) := by decide +kernel
theorem d_jdk_38_method_7_code_6 : decode jdk_38_method_7_code 6 = .ok (.iadd, 1) := by decide +kernel
theorem d_jdk_38_method_7_code_7 : decode jdk_38_method_7_code 7 = .ok (.invokevirtual 69, 3) := by decide +kernel
theorem d_jdk_38_method_7_code_10 : decode jdk_38_method_7_code 10 = .ok (.areturn, 1) := by decide +kernel
theorem d_jdk_38_method_6_code_0 : decode jdk_38_method_6_code 0 = .ok (.aload_n 0, 1) := by decide +kernel
theorem d_jdk_38_method_6_code_1 : decode jdk_38_method_6_code 1 = .ok (.getfield 9, 3) := by decide +kernel
theorem d_jdk_38_method_6_code_4 : decode jdk_38_method_6_code 4 = .ok (.arraylength, 1) := by decide +kernel
theorem d_jdk_38_method_6_code_5 : decode jdk_38_method_6_code 5 = .ok (.istore_n 2, 1) := by decide +kernel
theorem d_jdk_38_method_6_code_6 : decode jdk_38_method_6_code 6 = .ok (.iload_n 2, 1) := by decide +kernel
theorem d_jdk_38_method_6_code_7 : decode jdk_38_method_6_code 7 = .ok (.ifCond .gt 13, 3) := by decide +kernel
theorem d_jdk_38_method_6_code_10 : decode jdk_38_method_6_code 10 = .ok (.aload_n 0, 1) := by decide +kernel
theorem d_jdk_38_method_6_code_11 : decode jdk_38_method_6_code 11 = .ok (.getfield 9, 3) := by decide +kernel
theorem d_jdk_38_method_6_code_14 : decode jdk_38_method_6_code 14 = .ok (.getstatic 39, 3) := by decide +kernel
theorem d_jdk_38_method_6_code_17 : decode jdk_38_method_6_code 17 = .ok (.if_acmp .eq 28, 3) := by decide +kernel
theorem d_jdk_38_method_6_code_20 : decode jdk_38_method_6_code 20 = .ok (.iload_n 2, 1) := by decide +kernel
theorem d_jdk_38_method_6_code_21 : decode jdk_38_method_6_code 21 = .ok (.iload_n 1, 1) := by decide +kernel
theorem d_jdk_38_method_6_code_22 : decode jdk_38_method_6_code 22 = .ok (.iload_n 2, 1) := by decide +kernel
theorem d_jdk_38_method_6_code_23 : decode jdk_38_method_6_code 23 = .ok (.isub, 1) := by decide +kernel
theorem d_jdk_38_method_6_code_24 : decode jdk_38_method_6_code 24 = .ok (.iload_n 2, 1) := by decide +kernel
theorem d_jdk_38_method_6_code_25 : decode jdk_38_method_6_code 25 = .ok (.iconst 1, 1) := by decide +kernel
theorem d_jdk_38_method_6_code_26 : decode jdk_38_method_6_code 26 = .ok (.ishr, 1) := by decide +kernel
theorem d_jdk_38_method_6_code_27 : decode jdk_38_method_6_code 27 = .ok (.invokestatic 73, 3) := by decide +kernel
theorem d_jdk_38_method_6_code_30 : decode jdk_38_method_6_code 30 = .ok (.istore_n 3, 1) := by decide +kernel
theorem d_jdk_38_method_6_code_31 : decode jdk_38_method_6_code 31 = .ok (.aload_n 0, 1) := by decide +kernel
theorem d_jdk_38_method_6_code_32 : decode jdk_38_method_6_code 32 = .ok (.aload_n 0, 1) := by decide +kernel
theorem d_jdk_38_method_6_code_33 : decode jdk_38_method_6_code 33 = .ok (.getfield 9, 3) := by decide +kernel
theorem d_jdk_38_method_6_code_36 : decode jdk_38_method_6_code 36 = .ok (.iload_n 3, 1) := by decide +kernel
theorem d_jdk_38_method_6_code_37 : decode jdk_38_method_6_code 37 = .ok (.invokestatic 66, 3) := by decide +kernel
theorem d_jdk_38_method_6_code_40 : decode jdk_38_method_6_code 40 = .ok (.dup_x1, 1) := by decide +kernel
theorem d_jdk_38_method_6_code_41 : decode jdk_38_method_6_code 41 = .ok (.putfield 9, 3) := by decide +kernel
theorem d_jdk_38_method_6_code_44 : decode jdk_38_method_6_code 44 = .ok (.areturn, 1) := by decide +kernel
theorem d_jdk_38_method_6_code_45 : decode jdk_38_method_6_code 45 = .ok (.aload_n 0, 1) := by decide +kernel
theorem d_jdk_38_method_6_code_46 : decode jdk_38_method_6_code 46 = .ok (.bipush 10, 2) := by decide +kernel
theorem d_jdk_38_method_6_code_48 : decode jdk_38_method_6_code 48 = .ok (.iload_n 1, 1) := by decide +kernel
theorem d_jdk_38_method_6_code_49 : decode jdk_38_method_6_code 49 = .ok (.invokestatic 79, 3) := by decide +kernel
theorem d_jdk_38_method_6_code_52 : decode jdk_38_method_6_code 52 = .ok (.anewarray 7, 3) := by decide +kernel
theorem d_jdk_38_method_6_code_55 : decode jdk_38_method_6_code 55 = .ok (.dup_x1, 1) := by decide +kernel
theorem d_jdk_38_method_6_code_56 : decode jdk_38_method_6_code 56 = .ok (.putfield 9, 3) := by decide +kernel
theorem d_jdk_38_method_6_code_59 : decode jdk_38_method_6_code 59 = .ok (.areturn, 1) := by decide +kernel
theorem d_jdk_29_method_65_code_0 : decode jdk_29_method_65_code 0 = .ok (.iload_n 0, 1) := by decide +kernel
theorem d_jdk_29_method_65_code_1 : decode jdk_29_method_65_code 1 = .ok (.iload_n 1, 1) := by decide +kernel
theorem d_jdk_29_method_65_code_2 : decode jdk_29_method_65_code 2 = .ok (.if_icmp .lt 7, 3) := by decide +kernel
theorem d_jdk_29_method_65_code_5 : decode jdk_29_method_65_code 5 = .ok (.iload_n 0, 1) := by decide +kernel
theorem d_jdk_29_method_65_code_6 : decode jdk_29_method_65_code 6 = .ok (.goto 4, 3) := by decide +kernel
theorem d_jdk_29_method_65_code_9 : decode jdk_29_method_65_code 9 = .ok (.iload_n 1, 1) := by decide +kernel
theorem d_jdk_29_method_65_code_10 : decode jdk_29_method_65_code 10 = .ok (.ireturn, 1) := by decide +kernel
theorem d_prog_10_method_6_code_0 : decode prog_10_method_6_code 0 = .ok (.aload_n 1, 1) := by decide +kernel
theorem d_prog_10_method_6_code_1 : decode prog_10_method_6_code 1 = .ok (.getfield 59, 3) := by decide +kernel
theorem d_prog_10_method_6_code_4 : decode prog_10_method_6_code 4 = .ok (.ifnull 11, 3) := by decide +kernel
theorem d_prog_10_method_6_code_7 : decode prog_10_method_6_code 7 = .ok (.aload_n 1, 1) := by decide +kernel
theorem d_prog_10_method_6_code_8 : decode prog_10_method_6_code 8 = .ok (.getfield 59, 3) := by decide +kernel
theorem d_prog_10_method_6_code_11 : decode prog_10_method_6_code 11 = .ok (.aconst_null, 1) := by decide +kernel
theorem d_prog_10_method_6_code_12 : decode prog_10_method_6_code 12 = .ok (.putfield 59, 3) := by decide +kernel
theorem d_prog_10_method_6_code_15 : decode prog_10_method_6_code 15 = .ok (.aload_n 1, 1) := by decide +kernel
theorem d_prog_10_method_6_code_16 : decode prog_10_method_6_code 16 = .ok (.aload_n 0, 1) := by decide +kernel
theorem d_prog_10_method_6_code_17 : decode prog_10_method_6_code 17 = .ok (.putfield 59, 3) := by decide +kernel
theorem d_prog_10_method_6_code_20 : decode prog_10_method_6_code 20 = .ok (.aload_n 1, 1) := by decide +kernel
theorem d_prog_10_method_6_code_21 : decode prog_10_method_6_code 21 = .ok (.iconst 1, 1) := by decide +kernel
theorem d_prog_10_method_6_code_22 : decode prog_10_method_6_code 22 = .ok (.putfield 63, 3) := by decide +kernel
theorem d_prog_10_method_6_code_25 : decode prog_10_method_6_code 25 = .ok (.aload_n 0, 1) := by decide +kernel
theorem d_prog_10_method_6_code_26 : decode prog_10_method_6_code 26 = .ok (.aload_n 1, 1) := by decide +kernel
theorem d_prog_10_method_6_code_27 : decode prog_10_method_6_code 27 = .ok (.putfield 59, 3) := by decide +kernel
theorem d_prog_10_method_6_code_30 : decode prog_10_method_6_code 30 = .ok (.aload_n 0, 1) := by decide +kernel
theorem d_prog_10_method_6_code_31 : decode prog_10_method_6_code 31 = .ok (.iconst 0, 1) := by decide +kernel
theorem d_prog_10_method_6_code_32 : decode prog_10_method_6_code 32 = .ok (.putfield 63, 3) := by decide +kernel
theorem d_prog_10_method_6_code_35 : decode prog_10_method_6_code 35 = .ok (.return_, 1) := by decide +kernel
theorem d_method_3_code_0 : decode method_3_code 0 = .ok (.aload_n 0, 1) := by decide +kernel
theorem d_method_3_code_1 : decode method_3_code 1 = .ok (.invokevirtual 41, 3) := by decide +kernel
theorem d_method_3_code_4 : decode method_3_code 4 = .ok (.aload_n 1, 1) := by decide +kernel
theorem d_method_3_code_5 : decode method_3_code 5 = .ok (.if_acmp .eq 5, 3) := by decide +kernel
theorem d_method_3_code_8 : decode method_3_code 8 = .ok (.iconst 0, 1) := by decide +kernel
theorem d_method_3_code_9 : decode method_3_code 9 = .ok (.ireturn, 1) := by decide +kernel
theorem d_method_3_code_10 : decode method_3_code 10 = .ok (.aload_n 1, 1) := by decide +kernel
theorem d_method_3_code_11 : decode method_3_code 11 = .ok (.ifnonnull 5, 3) := by decide +kernel
theorem d_method_3_code_14 : decode method_3_code 14 = .ok (.iconst 1, 1) := by decide +kernel
theorem d_method_3_code_15 : decode method_3_code 15 = .ok (.ireturn, 1) := by decide +kernel
theorem d_method_3_code_16 : decode method_3_code 16 = .ok (.aload_n 0, 1) := by decide +kernel
theorem d_method_3_code_17 : decode method_3_code 17 = .ok (.aload_n 3, 1) := by decide +kernel
theorem d_method_3_code_18 : decode method_3_code 18 = .ok (.invokevirtual 45, 3) := by decide +kernel
theorem d_method_3_code_21 : decode method_3_code 21 = .ok (.astore 8, 2) := by decide +kernel
theorem d_method_3_code_23 : decode method_3_code 23 = .ok (.iload_n 2, 1) := by decide +kernel
theorem d_method_3_code_24 : decode method_3_code 24 = .ok (.ifCond .eq 11, 3) := by decide +kernel
theorem d_method_3_code_27 : decode method_3_code 27 = .ok (.iload 4, 2) := by decide +kernel
theorem d_method_3_code_29 : decode method_3_code 29 = .ok (.iload 6, 2) := by decide +kernel
theorem d_method_3_code_31 : decode method_3_code 31 = .ok (.iadd, 1) := by decide +kernel
theorem d_method_3_code_32 : decode method_3_code 32 = .ok (.goto 8, 3) := by decide +kernel
theorem d_method_3_code_35 : decode method_3_code 35 = .ok (.iload 4, 2) := by decide +kernel
theorem d_method_3_code_37 : decode method_3_code 37 = .ok (.iload 6, 2) := by decide +kernel
theorem d_method_3_code_39 : decode method_3_code 39 = .ok (.isub, 1) := by decide +kernel
theorem d_method_3_code_40 : decode method_3_code 40 = .ok (.istore 9, 2) := by decide +kernel
theorem d_method_3_code_42 : decode method_3_code 42 = .ok (.aload 8, 2) := by decide +kernel
theorem d_method_3_code_44 : decode method_3_code 44 = .ok (.invokevirtual 49, 3) := by decide +kernel
theorem d_method_3_code_47 : decode method_3_code 47 = .ok (.iload 9, 2) := by decide +kernel
theorem d_method_3_code_49 : decode method_3_code 49 = .ok (.if_icmp .ne 43, 3) := by decide +kernel
theorem d_method_3_code_52 : decode method_3_code 52 = .ok (.aload 8, 2) := by decide +kernel
theorem d_method_3_code_54 : decode method_3_code 54 = .ok (.invokevirtual 53, 3) := by decide +kernel
theorem d_method_3_code_57 : decode method_3_code 57 = .ok (.iload 5, 2) := by decide +kernel
theorem d_method_3_code_59 : decode method_3_code 59 = .ok (.if_icmp .ne 33, 3) := by decide +kernel
theorem d_method_3_code_62 : decode method_3_code 62 = .ok (.aload 8, 2) := by decide +kernel
theorem d_method_3_code_64 : decode method_3_code 64 = .ok (.invokevirtual 56, 3) := by decide +kernel
theorem d_method_3_code_67 : decode method_3_code 67 = .ok (.iload 9, 2) := by decide +kernel
theorem d_method_3_code_69 : decode method_3_code 69 = .ok (.iload 6, 2) := by decide +kernel
theorem d_method_3_code_71 : decode method_3_code 71 = .ok (.iadd, 1) := by decide +kernel
theorem d_method_3_code_72 : decode method_3_code 72 = .ok (.if_icmp .ne 20, 3) := by decide +kernel
theorem d_method_3_code_75 : decode method_3_code 75 = .ok (.aload 8, 2) := by decide +kernel
theorem d_method_3_code_77 : decode method_3_code 77 = .ok (.invokevirtual 59, 3) := by decide +kernel
theorem d_method_3_code_80 : decode method_3_code 80 = .ok (.iload 5, 2) := by decide +kernel
theorem d_method_3_code_82 : decode method_3_code 82 = .ok (.iload 7, 2) := by decide +kernel
theorem d_method_3_code_84 : decode method_3_code 84 = .ok (.iadd, 1) := by decide +kernel
theorem d_method_3_code_85 : decode method_3_code 85 = .ok (.if_icmp .ne 7, 3) := by decide +kernel
theorem d_method_3_code_88 : decode method_3_code 88 = .ok (.iconst 1, 1) := by decide +kernel
theorem d_method_3_code_89 : decode method_3_code 89 = .ok (.goto 4, 3) := by decide +kernel
theorem d_method_3_code_92 : decode method_3_code 92 = .ok (.iconst 0, 1) := by decide +kernel
theorem d_method_3_code_93 : decode method_3_code 93 = .ok (.ireturn, 1) := by decide +kernel
theorem d_prog_10_method_5_code_0 : decode prog_10_method_5_code 0 = .ok (.aload_n 0, 1) := by decide +kernel
theorem d_prog_10_method_5_code_1 : decode prog_10_method_5_code 1 = .ok (.getfield 59, 3) := by decide +kernel
theorem d_prog_10_method_5_code_4 : decode prog_10_method_5_code 4 = .ok (.areturn, 1) := by decide +kernel
theorem d_prog_10_method_7_code_0 : decode prog_10_method_7_code 0 = .ok (.aload_n 0, 1) := by decide +kernel
theorem d_prog_10_method_7_code_1 : decode prog_10_method_7_code 1 = .ok (.getfield 63, 3) := by decide +kernel
theorem d_prog_10_method_7_code_4 : decode prog_10_method_7_code 4 = .ok (.ifCond .eq 10, 3) := by decide +kernel
theorem d_prog_10_method_7_code_7 : decode prog_10_method_7_code 7 = .ok (.aload_n 1, 1) := by decide +kernel
theorem d_prog_10_method_7_code_8 : decode prog_10_method_7_code 8 = .ok (.invokestatic 67, 3) := by decide +kernel
theorem d_prog_10_method_7_code_11 : decode prog_10_method_7_code 11 = .ok (.goto 13, 3) := by decide +kernel
theorem d_prog_10_method_7_code_14 : decode prog_10_method_7_code 14 = .ok (.aload_n 1, 1) := by decide +kernel
theorem d_prog_10_method_7_code_15 : decode prog_10_method_7_code 15 = .ok (.aload_n 1, 1) := by decide +kernel
theorem d_prog_10_method_7_code_16 : decode prog_10_method_7_code 16 = .ok (.invokevirtual 71, 3) := by decide +kernel
theorem d_prog_10_method_7_code_19 : decode prog_10_method_7_code 19 = .ok (.ineg, 1) := by decide +kernel
theorem d_prog_10_method_7_code_20 : decode prog_10_method_7_code 20 = .ok (.iconst 0, 1) := by decide +kernel
theorem d_prog_10_method_7_code_21 : decode prog_10_method_7_code 21 = .ok (.invokevirtual 76, 3) := by decide +kernel
theorem d_prog_10_method_7_code_24 : decode prog_10_method_7_code 24 = .ok (.areturn, 1) := by decide +kernel
theorem d_prog_10_method_8_code_0 : decode prog_10_method_8_code 0 = .ok (.aload_n 0, 1) := by decide +kernel
theorem d_prog_10_method_8_code_1 : decode prog_10_method_8_code 1 = .ok (.aload_n 0, 1) := by decide +kernel
theorem d_prog_10_method_8_code_2 : decode prog_10_method_8_code 2 = .ok (.invokevirtual 71, 3) := by decide +kernel
theorem d_prog_10_method_8_code_5 : decode prog_10_method_8_code 5 = .ok (.iconst 0, 1) := by decide +kernel
theorem d_prog_10_method_8_code_6 : decode prog_10_method_8_code 6 = .ok (.invokevirtual 76, 3) := by decide +kernel
theorem d_prog_10_method_8_code_9 : decode prog_10_method_8_code 9 = .ok (.areturn, 1) := by decide +kernel
theorem d_prog_19_method_2_code_0 : decode prog_19_method_2_code 0 = .ok (.aload_n 0, 1) := by decide +kernel
theorem d_prog_19_method_2_code_1 : decode prog_19_method_2_code 1 = .ok (.getfield 34, 3) := by decide +kernel
theorem d_prog_19_method_2_code_4 : decode prog_19_method_2_code 4 = .ok (.aload_n 0, 1) := by decide +kernel
theorem d_prog_19_method_2_code_5 : decode prog_19_method_2_code 5 = .ok (.getfield 27, 3) := by decide +kernel
theorem d_prog_19_method_2_code_8 : decode prog_19_method_2_code 8 = .ok (.isub, 1) := by decide +kernel
theorem d_prog_19_method_2_code_9 : decode prog_19_method_2_code 9 = .ok (.ireturn, 1) := by decide +kernel
theorem d_prog_19_method_6_code_0 : decode prog_19_method_6_code 0 = .ok (.new 10, 3) := by decide +kernel
theorem d_prog_19_method_6_code_3 : decode prog_19_method_6_code 3 = .ok (.dup, 1) := by decide +kernel
theorem d_prog_19_method_6_code_4 : decode prog_19_method_6_code 4 = .ok (.aload_n 0, 1) := by decide +kernel
theorem d_prog_19_method_6_code_5 : decode prog_19_method_6_code 5 = .ok (.getfield 27, 3) := by decide +kernel
theorem d_prog_19_method_6_code_8 : decode prog_19_method_6_code 8 = .ok (.iload_n 1, 1) := by decide +kernel
theorem d_prog_19_method_6_code_9 : decode prog_19_method_6_code 9 = .ok (.invokestatic 40, 3) := by decide +kernel
theorem d_prog_19_method_6_code_12 : decode prog_19_method_6_code 12 = .ok (.aload_n 0, 1) := by decide +kernel
theorem d_prog_19_method_6_code_13 : decode prog_19_method_6_code 13 = .ok (.getfield 31, 3) := by decide +kernel
theorem d_prog_19_method_6_code_16 : decode prog_19_method_6_code 16 = .ok (.iload_n 2, 1) := by decide +kernel
theorem d_prog_19_method_6_code_17 : decode prog_19_method_6_code 17 = .ok (.invokestatic 40, 3) := by decide +kernel
theorem d_prog_19_method_6_code_20 : decode prog_19_method_6_code 20 = .ok (.aload_n 0, 1) := by decide +kernel
theorem d_prog_19_method_6_code_21 : decode prog_19_method_6_code 21 = .ok (.getfield 34, 3) := by decide +kernel
theorem d_prog_19_method_6_code_24 : decode prog_19_method_6_code 24 = .ok (.iload_n 1, 1) := by decide +kernel
theorem d_prog_19_method_6_code_25 : decode prog_19_method_6_code 25 = .ok (.invokestatic 40, 3) := by decide +kernel
theorem d_prog_19_method_6_code_28 : decode prog_19_method_6_code 28 = .ok (.aload_n 0, 1) := by decide +kernel
theorem d_prog_19_method_6_code_29 : decode prog_19_method_6_code 29 = .ok (.getfield 37, 3) := by decide +kernel
theorem d_prog_19_method_6_code_32 : decode prog_19_method_6_code 32 = .ok (.iload_n 2, 1) := by decide +kernel
theorem d_prog_19_method_6_code_33 : decode prog_19_method_6_code 33 = .ok (.invokestatic 40, 3) := by decide +kernel
theorem d_prog_19_method_6_code_36 : decode prog_19_method_6_code 36 = .ok (.invokespecial 46, 3) := by decide +kernel
theorem d_prog_19_method_6_code_39 : decode prog_19_method_6_code 39 = .ok (.areturn, 1) := by decide +kernel
theorem d_jdk_29_method_24_code_0 : decode jdk_29_method_24_code 0 = .ok (.iload_n 0, 1) := by decide +kernel
theorem d_jdk_29_method_24_code_1 : decode jdk_29_method_24_code 1 = .ok (.iload_n 1, 1) := by decide +kernel
theorem d_jdk_29_method_24_code_2 : decode jdk_29_method_24_code 2 = .ok (.iadd, 1) := by decide +kernel
theorem d_jdk_29_method_24_code_3 : decode jdk_29_method_24_code 3 = .ok (.istore_n 2, 1) := by decide +kernel
theorem d_jdk_29_method_24_code_4 : decode jdk_29_method_24_code 4 = .ok (.iload_n 0, 1) := by decide +kernel
theorem d_jdk_29_method_24_code_5 : decode jdk_29_method_24_code 5 = .ok (.iload_n 2, 1) := by decide +kernel
theorem d_jdk_29_method_24_code_6 : decode jdk_29_method_24_code 6 = .ok (.ixor, 1) := by decide +kernel
theorem d_jdk_29_method_24_code_7 : decode jdk_29_method_24_code 7 = .ok (.iload_n 1, 1) := by decide +kernel
theorem d_jdk_29_method_24_code_8 : decode jdk_29_method_24_code 8 = .ok (.iload_n 2, 1) := by decide +kernel
theorem d_jdk_29_method_24_code_9 : decode jdk_29_method_24_code 9 = .ok (.ixor, 1) := by decide +kernel
theorem d_jdk_29_method_24_code_10 : decode jdk_29_method_24_code 10 = .ok (.iand, 1) := by decide +kernel
theorem d_jdk_29_method_24_code_11 : decode jdk_29_method_24_code 11 = .ok (.ifCond .ge 13, 3) := by decide +kernel
theorem d_jdk_29_method_24_code_14 : decode jdk_29_method_24_code 14 = .ok (.new 109, 3) := by decide +kernel
theorem d_jdk_29_method_24_code_17 : decode jdk_29_method_24_code 17 = .ok (.dup, 1) := by decide +kernel
theorem d_jdk_29_method_24_code_18 : decode jdk_29_method_24_code 18 = .ok (.ldc 111, 2) := by decide +kernel
theorem d_jdk_29_method_24_code_20 : decode jdk_29_method_24_code 20 = .ok (.invokespecial 113, 3) := by decide +kernel
theorem d_jdk_29_method_24_code_23 : decode jdk_29_method_24_code 23 = .ok (.athrow, 1) := by decide +kernel
theorem d_jdk_29_method_24_code_24 : decode jdk_29_method_24_code 24 = .ok (.iload_n 2, 1) := by decide +kernel
theorem d_jdk_29_method_24_code_25 : decode jdk_29_method_24_code 25 = .ok (.ireturn, 1) := by decide +kernel
theorem d_prog_19_method_14_code_0 : decode prog_19_method_14_code 0 = .ok (.aload_n 0, 1) := by decide +kernel
theorem d_prog_19_method_14_code_1 : decode prog_19_method_14_code 1 = .ok (.getfield 27, 3) := by decide +kernel
theorem d_prog_19_method_14_code_4 : decode prog_19_method_14_code 4 = .ok (.ireturn, 1) := by decide +kernel
theorem d_prog_19_method_15_code_0 : decode prog_19_method_15_code 0 = .ok (.aload_n 0, 1) := by decide +kernel
theorem d_prog_19_method_15_code_1 : decode prog_19_method_15_code 1 = .ok (.getfield 31, 3) := by decide +kernel
theorem d_prog_19_method_15_code_4 : decode prog_19_method_15_code 4 = .ok (.ireturn, 1) := by decide +kernel
theorem d_prog_19_method_16_code_0 : decode prog_19_method_16_code 0 = .ok (.aload_n 0, 1) := by decide +kernel
theorem d_prog_19_method_16_code_1 : decode prog_19_method_16_code 1 = .ok (.getfield 34, 3) := by decide +kernel
theorem d_prog_19_method_16_code_4 : decode prog_19_method_16_code 4 = .ok (.ireturn, 1) := by decide +kernel
theorem d_prog_19_method_17_code_0 : decode prog_19_method_17_code 0 = .ok (.aload_n 0, 1) := by decide +kernel
theorem d_prog_19_method_17_code_1 : decode prog_19_method_17_code 1 = .ok (.getfield 37, 3) := by decide +kernel
theorem d_prog_19_method_17_code_4 : decode prog_19_method_17_code 4 = .ok (.ireturn, 1) := by decide +kernel
theorem own_i32 (a : Int32) : -2147483648 ≤ a.toInt ∧ a.toInt ≤ 2147483647 := ⟨by have := Int32.le_toInt a; omega, by have := Int32.toInt_lt a; omega⟩
theorem own_i64 (a : Int64) : -9223372036854775808 ≤ a.toInt ∧ a.toInt ≤ 9223372036854775807 := ⟨by have := Int64.le_toInt a; omega, by have := Int64.toInt_lt a; omega⟩
theorem own_sub {x y : Int64} (h1 : -9223372036854775808 ≤ x.toInt - y.toInt) (h2 : x.toInt - y.toInt ≤ 9223372036854775807) : (x - y).toInt = x.toInt - y.toInt := by
  rw [Int64.toInt_sub, Int.bmod_eq_of_le] <;> omega
theorem own_add {x y : Int64} (h1 : -9223372036854775808 ≤ x.toInt + y.toInt) (h2 : x.toInt + y.toInt ≤ 9223372036854775807) : (x + y).toInt = x.toInt + y.toInt := by
  rw [Int64.toInt_add, Int.bmod_eq_of_le] <;> omega
theorem own_isub {x y : Int32} (h1 : -2147483648 ≤ x.toInt - y.toInt) (h2 : x.toInt - y.toInt ≤ 2147483647) : (x - y).toInt = x.toInt - y.toInt := by
  rw [Int32.toInt_sub, Int.bmod_eq_of_le] <;> omega
theorem own_iadd {x y : Int32} (h1 : -2147483648 ≤ x.toInt + y.toInt) (h2 : x.toInt + y.toInt ≤ 2147483647) : (x + y).toInt = x.toInt + y.toInt := by
  rw [Int32.toInt_add, Int.bmod_eq_of_le] <;> omega
theorem own_up (a : Int32) : a.toInt64.toInt = a.toInt := Int32.toInt_toInt64 a
theorem own_down {x : Int64} (h1 : -2147483648 ≤ x.toInt) (h2 : x.toInt ≤ 2147483647) : x.toInt32.toInt = x.toInt := by
  rw [Int64.toInt_toInt32, Int.bmod_eq_of_le] <;> omega
theorem own_pos (b : Int32) : 0 ≤ (b &&& 2147483647).toInt ∧ (b &&& 2147483647).toInt ≤ 2147483647 := by
  have hn : ¬ (b &&& 2147483647 < 0) := by
    rw [XT.and_neg32]; intro q; exact absurd q.2 (by decide)
  rw [Int32.lt_iff_toInt_lt] at hn
  exact ⟨by simpa using hn, (own_i32 _).2⟩
theorem strs : ∀ q ∈ Bundle.stringAtoms, q ∈ tables_1 := by
  intro q hq
  simp only [Bundle.stringAtoms, List.mem_cons, List.not_mem_nil, or_false] at hq
  rcases hq with rfl | rfl | rfl | rfl | rfl | rfl | rfl
  · exact tw 5 rfl
  · exact tw 6 rfl
  · exact tw 7 rfl
  · exact tw 8 rfl
  · exact tw 9 rfl
  · exact tw 10 rfl
  · exact tw 11 rfl
theorem lt_some {G : Ghost} {j : Nat} {o : Obj} (h : G[j]? = some o) : j < G.length := (List.getElem?_eq_some_iff.mp h).1
theorem set_last (G : Ghost) (o o' : Obj) : (G ++ [o]).set G.length o' = G ++ [o'] := by simp
theorem get_last (G : Ghost) (o : Obj) : (G ++ [o])[G.length]? = some o := by simp
theorem get_app {G : Ghost} {j : Nat} {o o' : Obj} (h : G[j]? = some o) : (G ++ [o'])[j]? = some o := by rw [List.getElem?_append_left (lt_some h)]; exact h
theorem get_set {G : Ghost} {j : Nat} {o o' : Obj} (h : G[j]? = some o) : (G.set j o')[j]? = some o' := List.getElem?_set_self (lt_some h)
set_option maxRecDepth 65536 in
set_option maxHeartbeats 4000000 in
theorem m_AbstractCollection__init__ {l : Launch} {Z : State} {a0 : Array Value} {n0 : Nat} {oa : Addr} (hw : ∀ d ∈ tables_1, d.before a0 Z = true) (hst : Sta Z Z.heap "java/util/ArrayList" "DEFAULTCAPACITY_EMPTY_ELEMENTDATA" "[Ljava/lang/Object;" (.ref oa)) {G : Ghost} {j : Nat} :
    Meth sg l Z n0 [oa] (⟨"java/util/AbstractCollection", "<init>", "()V"⟩ : MethodName) jdk_22_method_1_code 1 none ({ frames := 1, cells := 0, slots := 0, locals := 12 } : Room) [.ref j] G (fun v G' => v = none ∧ G' = G) := by
  refine Meth.of (a0 := a0) (tab := tables_1) (Ls := [.val (.ref j)]) pn_jdk_22_method_1_code hw sgOk (fun ad m => ent rfl ad m) ?_
  intro J W
  refine W.aloadN (pc' := 1) d_jdk_22_method_1_code_0 rfl rfl ?_
  refine W.initObject (pc' := 4) d_jdk_22_method_1_code_1 (tw 36 rfl) (tw 16 rfl) (tw 17 rfl) rfl rfl rfl ?_
  refine W.return_ d_jdk_22_method_1_code_4 (by decide) (by decide) ?_
  exact ⟨rfl, rfl⟩
set_option maxRecDepth 65536 in
set_option maxHeartbeats 4000000 in
theorem m_Record__init__ {l : Launch} {Z : State} {a0 : Array Value} {n0 : Nat} {oa : Addr} (hw : ∀ d ∈ tables_1, d.before a0 Z = true) (hst : Sta Z Z.heap "java/util/ArrayList" "DEFAULTCAPACITY_EMPTY_ELEMENTDATA" "[Ljava/lang/Object;" (.ref oa)) {G : Ghost} {j : Nat} :
    Meth sg l Z n0 [oa] (⟨"java/lang/Record", "<init>", "()V"⟩ : MethodName) jdk_30_method_1_code 1 none ({ frames := 1, cells := 0, slots := 0, locals := 12 } : Room) [.ref j] G (fun v G' => v = none ∧ G' = G) := by
  refine Meth.of (a0 := a0) (tab := tables_1) (Ls := [.val (.ref j)]) pn_jdk_30_method_1_code hw sgOk (fun ad m => ent rfl ad m) ?_
  intro J W
  refine W.aloadN (pc' := 1) d_jdk_30_method_1_code_0 rfl rfl ?_
  refine W.initObject (pc' := 4) d_jdk_30_method_1_code_1 (tw 63 rfl) (tw 16 rfl) (tw 17 rfl) rfl rfl rfl ?_
  refine W.return_ d_jdk_30_method_1_code_4 (by decide) (by decide) ?_
  exact ⟨rfl, rfl⟩
set_option maxRecDepth 65536 in
set_option maxHeartbeats 4000000 in
theorem m_AbstractList__init__ {l : Launch} {Z : State} {a0 : Array Value} {n0 : Nat} {oa : Addr} (hw : ∀ d ∈ tables_1, d.before a0 Z = true) (hst : Sta Z Z.heap "java/util/ArrayList" "DEFAULTCAPACITY_EMPTY_ELEMENTDATA" "[Ljava/lang/Object;" (.ref oa)) {G : Ghost} {j : Nat} {u w z : Value} (hO : G[j]? = some (.inl 2, [u, w, z])) (hl : Nat.ble 1 j = true) :
    Meth sg l Z n0 [oa] (⟨"java/util/AbstractList", "<init>", "()V"⟩ : MethodName) jdk_39_method_1_code 1 none ({ frames := 2, cells := 0, slots := 0, locals := 24 } : Room) [.ref j] G (fun v G' => v = none ∧ G' = G.set j (.inl 2, [.int 0, w, z])) := by
  refine Meth.of (a0 := a0) (tab := tables_1) (Ls := [.val (.ref j)]) pn_jdk_39_method_1_code hw sgOk (fun ad m => ent rfl ad m) ?_
  intro J W
  have hj := lt_some hO
  refine W.aloadN (pc' := 1) d_jdk_39_method_1_code_0 rfl rfl ?_
  refine W.callInit (pc' := 4) d_jdk_39_method_1_code_1 (tw 30 rfl) (tw 31 rfl) (tw 34 rfl) (tw 35 rfl) (m_AbstractCollection__init__ hw hst) (lenOf pd0 rfl) rfl (by first | rfl | (simp [scS, sc, *]; done) | (simp [scS, sc]; omega)) rfl rfl rfl (by decide) (by decide) (fun v G' hQ => ?_)
  obtain ⟨rfl, hG_⟩ := hQ
  rw [hG_]
  clear hG_
  try simp only [List.length_cons, List.length_nil, Nat.reduceAdd, Nat.zero_add, List.cons_append, List.nil_append, List.set_cons_zero, List.set_cons_succ, Option.toList]
  refine W.aloadN (pc' := 5) d_jdk_39_method_1_code_4 rfl rfl ?_
  refine W.iconst (pc' := 6) (0) d_jdk_39_method_1_code_5 rfl ?_
  refine W.putfield (pc' := 9) (host := "") 0 d_jdk_39_method_1_code_6 (Or.inl (tw 37 rfl)) (Or.inl rfl) hO hl rfl rfl (Or.inl (tw 38 rfl)) (fun _ => rfl) (fun _ => rfl) rfl ?_
  try simp only [List.length_cons, List.length_nil, Nat.reduceAdd, Nat.zero_add, List.cons_append, List.nil_append, List.set_cons_zero, List.set_cons_succ, Option.toList]
  refine W.return_ d_jdk_39_method_1_code_9 (by decide) (by decide) ?_
  exact ⟨rfl, rfl⟩
set_option maxRecDepth 65536 in
set_option maxHeartbeats 4000000 in
theorem m_ArrayList__init__ {l : Launch} {Z : State} {a0 : Array Value} {n0 : Nat} {oa : Addr} (hw : ∀ d ∈ tables_1, d.before a0 Z = true) (hst : Sta Z Z.heap "java/util/ArrayList" "DEFAULTCAPACITY_EMPTY_ELEMENTDATA" "[Ljava/lang/Object;" (.ref oa)) {G : Ghost} {j : Nat} {u w z : Value} (hO : G[j]? = some (.inl 2, [u, w, z])) (hl : Nat.ble 1 j = true) :
    Meth sg l Z n0 [oa] (⟨"java/util/ArrayList", "<init>", "()V"⟩ : MethodName) jdk_38_method_2_code 1 none ({ frames := 3, cells := 0, slots := 0, locals := 36 } : Room) [.ref j] G (fun v G' => v = none ∧ G' = G.set j (.inl 2, [.int 0, .ref 0, z])) := by
  refine Meth.of (a0 := a0) (tab := tables_1) (Ls := [.val (.ref j)]) pn_jdk_38_method_2_code hw sgOk (fun ad m => ent rfl ad m) ?_
  intro J W
  have hj := lt_some hO
  refine W.aloadN (pc' := 1) d_jdk_38_method_2_code_0 rfl rfl ?_
  refine W.callInit (pc' := 4) d_jdk_38_method_2_code_1 (tw 24 rfl) (tw 25 rfl) (tw 28 rfl) (tw 29 rfl) (m_AbstractList__init__ hw hst hO hl) (lenOf pd0 rfl) rfl (by first | rfl | (simp [scS, sc, *]; done) | (simp [scS, sc]; omega)) rfl rfl rfl (by decide) (by decide) (fun v G' hQ => ?_)
  obtain ⟨rfl, rfl⟩ := hQ
  try simp only [List.length_cons, List.length_nil, Nat.reduceAdd, Nat.zero_add, List.cons_append, List.nil_append, List.set_cons_zero, List.set_cons_succ, Option.toList]
  refine W.aloadN (pc' := 5) d_jdk_38_method_2_code_4 rfl rfl ?_
  refine W.getstatic (j := 0) (pc' := 8) d_jdk_38_method_2_code_5 (tw 39 rfl) rfl hst ?_
  refine W.putfield (pc' := 11) (host := "") 1 d_jdk_38_method_2_code_8 (Or.inl (tw 40 rfl)) (Or.inl rfl) (get_set hO) hl rfl rfl (Or.inl (tw 41 rfl)) (fun _ => rfl) (fun _ => rfl) (by simp [sc]; omega) ?_
  try simp only [List.length_cons, List.length_nil, Nat.reduceAdd, Nat.zero_add, List.cons_append, List.nil_append, List.set_cons_zero, List.set_cons_succ, Option.toList]
  refine W.return_ d_jdk_38_method_2_code_11 (by decide) (by decide) ?_
  exact ⟨rfl, by rw [List.set_set]⟩
set_option maxRecDepth 65536 in
set_option maxHeartbeats 4000000 in
theorem m_Math_max_II {l : Launch} {Z : State} {a0 : Array Value} {n0 : Nat} {oa : Addr} (hw : ∀ d ∈ tables_1, d.before a0 Z = true) (hst : Sta Z Z.heap "java/util/ArrayList" "DEFAULTCAPACITY_EMPTY_ELEMENTDATA" "[Ljava/lang/Object;" (.ref oa)) {G : Ghost} :
    Meth sg l Z n0 [oa] (⟨"java/lang/Math", "max", "(II)I"⟩ : MethodName) jdk_29_method_65_code 2 (some .int) ({ frames := 0, cells := 0, slots := 0, locals := 0 } : Room) [.int 10, .int (0 + 1)] G (fun v G' => v = some (.int 10) ∧ G' = G) := by
  refine Meth.of (a0 := a0) (tab := tables_1) (Ls := [.val (.int 10), .val (.int (0 + 1))]) pn_jdk_29_method_65_code hw sgOk (fun ad m => ent rfl ad m) ?_
  intro J W
  refine W.iloadN (pc' := 1) d_jdk_29_method_65_code_0 rfl ?_
  refine W.iloadN (pc' := 2) d_jdk_29_method_65_code_1 rfl ?_
  refine W.icmp_lt (pc' := 9) (pc2 := 5) d_jdk_29_method_65_code_2 (fun hz_ => absurd hz_ (by decide)) (fun _ => ?_)
  refine W.iloadN (pc' := 6) d_jdk_29_method_65_code_5 rfl ?_
  refine W.goto (pc' := 10) d_jdk_29_method_65_code_6 ?_
  refine W.ireturn d_jdk_29_method_65_code_10 (by decide) (by decide) ?_
  exact ⟨rfl, rfl⟩
set_option maxRecDepth 65536 in
set_option maxHeartbeats 4000000 in
theorem m_Rect_width_ {l : Launch} {Z : State} {a0 : Array Value} {n0 : Nat} {oa : Addr} (hw : ∀ d ∈ tables_1, d.before a0 Z = true) (hst : Sta Z Z.heap "java/util/ArrayList" "DEFAULTCAPACITY_EMPTY_ELEMENTDATA" "[Ljava/lang/Object;" (.ref oa)) {G : Ghost} {j : Nat} {le to_ ri bo : Int32} (hO : G[j]? = some (.inl 3, [.int le, .int to_, .int ri, .int bo])) :
    Meth sg l Z n0 [oa] (⟨"com/example/guest_panes/guestpanes/Rect", "width", "()I"⟩ : MethodName) prog_19_method_2_code 1 (some .int) ({ frames := 0, cells := 0, slots := 0, locals := 0 } : Room) [.ref j] G (fun v G' => v = some (.int (ri - le)) ∧ G' = G) := by
  refine Meth.of (a0 := a0) (tab := tables_1) (Ls := [.val (.ref j)]) pn_prog_19_method_2_code hw sgOk (fun ad m => ent rfl ad m) ?_
  intro J W
  refine W.aloadN (pc' := 1) d_prog_19_method_2_code_0 rfl rfl ?_
  refine W.getfield (pc' := 4) (host := "") 2 d_prog_19_method_2_code_1 (Or.inl (tw 69 rfl)) (Or.inl rfl) hO rfl rfl rfl ?_
  refine W.aloadN (pc' := 5) d_prog_19_method_2_code_4 rfl rfl ?_
  refine W.getfield (pc' := 8) (host := "") 0 d_prog_19_method_2_code_5 (Or.inl (tw 65 rfl)) (Or.inl rfl) hO rfl rfl rfl ?_
  refine W.isub (pc' := 9) d_prog_19_method_2_code_8 ?_
  refine W.ireturn d_prog_19_method_2_code_9 (by decide) (by decide) ?_
  exact ⟨rfl, rfl⟩
set_option maxRecDepth 65536 in
set_option maxHeartbeats 4000000 in
theorem m_Rect_left_ {l : Launch} {Z : State} {a0 : Array Value} {n0 : Nat} {oa : Addr} (hw : ∀ d ∈ tables_1, d.before a0 Z = true) (hst : Sta Z Z.heap "java/util/ArrayList" "DEFAULTCAPACITY_EMPTY_ELEMENTDATA" "[Ljava/lang/Object;" (.ref oa)) {G : Ghost} {j : Nat} {le to_ ri bo : Int32} (hO : G[j]? = some (.inl 3, [.int le, .int to_, .int ri, .int bo])) :
    Meth sg l Z n0 [oa] (⟨"com/example/guest_panes/guestpanes/Rect", "left", "()I"⟩ : MethodName) prog_19_method_14_code 1 (some .int) ({ frames := 0, cells := 0, slots := 0, locals := 0 } : Room) [.ref j] G (fun v G' => v = some (.int (le)) ∧ G' = G) := by
  refine Meth.of (a0 := a0) (tab := tables_1) (Ls := [.val (.ref j)]) pn_prog_19_method_14_code hw sgOk (fun ad m => ent rfl ad m) ?_
  intro J W
  refine W.aloadN (pc' := 1) d_prog_19_method_14_code_0 rfl rfl ?_
  refine W.getfield (pc' := 4) (host := "") 0 d_prog_19_method_14_code_1 (Or.inl (tw 65 rfl)) (Or.inl rfl) hO rfl rfl rfl ?_
  refine W.ireturn d_prog_19_method_14_code_4 (by decide) (by decide) ?_
  exact ⟨rfl, rfl⟩
set_option maxRecDepth 65536 in
set_option maxHeartbeats 4000000 in
theorem m_Rect_top_ {l : Launch} {Z : State} {a0 : Array Value} {n0 : Nat} {oa : Addr} (hw : ∀ d ∈ tables_1, d.before a0 Z = true) (hst : Sta Z Z.heap "java/util/ArrayList" "DEFAULTCAPACITY_EMPTY_ELEMENTDATA" "[Ljava/lang/Object;" (.ref oa)) {G : Ghost} {j : Nat} {le to_ ri bo : Int32} (hO : G[j]? = some (.inl 3, [.int le, .int to_, .int ri, .int bo])) :
    Meth sg l Z n0 [oa] (⟨"com/example/guest_panes/guestpanes/Rect", "top", "()I"⟩ : MethodName) prog_19_method_15_code 1 (some .int) ({ frames := 0, cells := 0, slots := 0, locals := 0 } : Room) [.ref j] G (fun v G' => v = some (.int (to_)) ∧ G' = G) := by
  refine Meth.of (a0 := a0) (tab := tables_1) (Ls := [.val (.ref j)]) pn_prog_19_method_15_code hw sgOk (fun ad m => ent rfl ad m) ?_
  intro J W
  refine W.aloadN (pc' := 1) d_prog_19_method_15_code_0 rfl rfl ?_
  refine W.getfield (pc' := 4) (host := "") 1 d_prog_19_method_15_code_1 (Or.inl (tw 67 rfl)) (Or.inl rfl) hO rfl rfl rfl ?_
  refine W.ireturn d_prog_19_method_15_code_4 (by decide) (by decide) ?_
  exact ⟨rfl, rfl⟩
set_option maxRecDepth 65536 in
set_option maxHeartbeats 4000000 in
theorem m_Rect_right_ {l : Launch} {Z : State} {a0 : Array Value} {n0 : Nat} {oa : Addr} (hw : ∀ d ∈ tables_1, d.before a0 Z = true) (hst : Sta Z Z.heap "java/util/ArrayList" "DEFAULTCAPACITY_EMPTY_ELEMENTDATA" "[Ljava/lang/Object;" (.ref oa)) {G : Ghost} {j : Nat} {le to_ ri bo : Int32} (hO : G[j]? = some (.inl 3, [.int le, .int to_, .int ri, .int bo])) :
    Meth sg l Z n0 [oa] (⟨"com/example/guest_panes/guestpanes/Rect", "right", "()I"⟩ : MethodName) prog_19_method_16_code 1 (some .int) ({ frames := 0, cells := 0, slots := 0, locals := 0 } : Room) [.ref j] G (fun v G' => v = some (.int (ri)) ∧ G' = G) := by
  refine Meth.of (a0 := a0) (tab := tables_1) (Ls := [.val (.ref j)]) pn_prog_19_method_16_code hw sgOk (fun ad m => ent rfl ad m) ?_
  intro J W
  refine W.aloadN (pc' := 1) d_prog_19_method_16_code_0 rfl rfl ?_
  refine W.getfield (pc' := 4) (host := "") 2 d_prog_19_method_16_code_1 (Or.inl (tw 69 rfl)) (Or.inl rfl) hO rfl rfl rfl ?_
  refine W.ireturn d_prog_19_method_16_code_4 (by decide) (by decide) ?_
  exact ⟨rfl, rfl⟩
set_option maxRecDepth 65536 in
set_option maxHeartbeats 4000000 in
theorem m_Rect_bottom_ {l : Launch} {Z : State} {a0 : Array Value} {n0 : Nat} {oa : Addr} (hw : ∀ d ∈ tables_1, d.before a0 Z = true) (hst : Sta Z Z.heap "java/util/ArrayList" "DEFAULTCAPACITY_EMPTY_ELEMENTDATA" "[Ljava/lang/Object;" (.ref oa)) {G : Ghost} {j : Nat} {le to_ ri bo : Int32} (hO : G[j]? = some (.inl 3, [.int le, .int to_, .int ri, .int bo])) :
    Meth sg l Z n0 [oa] (⟨"com/example/guest_panes/guestpanes/Rect", "bottom", "()I"⟩ : MethodName) prog_19_method_17_code 1 (some .int) ({ frames := 0, cells := 0, slots := 0, locals := 0 } : Room) [.ref j] G (fun v G' => v = some (.int (bo)) ∧ G' = G) := by
  refine Meth.of (a0 := a0) (tab := tables_1) (Ls := [.val (.ref j)]) pn_prog_19_method_17_code hw sgOk (fun ad m => ent rfl ad m) ?_
  intro J W
  refine W.aloadN (pc' := 1) d_prog_19_method_17_code_0 rfl rfl ?_
  refine W.getfield (pc' := 4) (host := "") 3 d_prog_19_method_17_code_1 (Or.inl (tw 71 rfl)) (Or.inl rfl) hO rfl rfl rfl ?_
  refine W.ireturn d_prog_19_method_17_code_4 (by decide) (by decide) ?_
  exact ⟨rfl, rfl⟩
set_option maxRecDepth 65536 in
set_option maxHeartbeats 4000000 in
theorem m_Display_color_ {l : Launch} {Z : State} {a0 : Array Value} {n0 : Nat} {oa : Addr} (hw : ∀ d ∈ tables_1, d.before a0 Z = true) (hst : Sta Z Z.heap "java/util/ArrayList" "DEFAULTCAPACITY_EMPTY_ELEMENTDATA" "[Ljava/lang/Object;" (.ref oa)) {G : Ghost} {j : Nat} {u w y z : Value} (hO : G[j]? = some (.inl 0, [u, w, y, z, .int 0])) :
    Meth sg l Z n0 [oa] (⟨"com/example/guest_panes/guestpanes/Display", "color", "()I"⟩ : MethodName) prog_6_method_5_code 1 (some .int) ({ frames := 0, cells := 0, slots := 0, locals := 0 } : Room) [.ref j] G (fun v G' => v = some (.int 0) ∧ G' = G) := by
  refine Meth.of (a0 := a0) (tab := tables_1) (Ls := [.val (.ref j)]) pn_prog_6_method_5_code hw sgOk (fun ad m => ent rfl ad m) ?_
  intro J W
  refine W.aloadN (pc' := 1) d_prog_6_method_5_code_0 rfl rfl ?_
  refine W.getfield (pc' := 4) (host := "") 4 d_prog_6_method_5_code_1 (Or.inl (tw 50 rfl)) (Or.inl rfl) hO rfl rfl rfl ?_
  refine W.ireturn d_prog_6_method_5_code_4 (by decide) (by decide) ?_
  exact ⟨rfl, rfl⟩
set_option maxRecDepth 65536 in
set_option maxHeartbeats 4000000 in
theorem m_PaneOwner_panes_ {l : Launch} {Z : State} {a0 : Array Value} {n0 : Nat} {oa : Addr} (hw : ∀ d ∈ tables_1, d.before a0 Z = true) (hst : Sta Z Z.heap "java/util/ArrayList" "DEFAULTCAPACITY_EMPTY_ELEMENTDATA" "[Ljava/lang/Object;" (.ref oa)) {G : Ghost} {j q : Nat} {u w y z : Value} (hO : G[j]? = some (.inl 4, [.ref q, u, w, y, z])) (hq : q < G.length) :
    Meth sg l Z n0 [oa] (⟨"com/example/guest_panes/guestpanes/PaneOwner", "panes", "()Ljava/util/List;"⟩ : MethodName) prog_18_method_9_code 1 (some (.object "java/util/List")) ({ frames := 0, cells := 0, slots := 0, locals := 0 } : Room) [.ref j] G (fun v G' => v = some (.ref q) ∧ G' = G) := by
  refine Meth.of (a0 := a0) (tab := tables_1) (Ls := [.val (.ref j)]) pn_prog_18_method_9_code hw sgOk (fun ad m => ent rfl ad m) ?_
  intro J W
  refine W.aloadN (pc' := 1) d_prog_18_method_9_code_0 rfl rfl ?_
  refine W.getfield (pc' := 4) (host := "") 0 d_prog_18_method_9_code_1 (Or.inl (tw 88 rfl)) (Or.inl rfl) hO rfl rfl rfl ?_
  refine W.areturn d_prog_18_method_9_code_4 rfl rfl (by first | rfl | (simp [scS, sc, *]; done) | (simp [scS, sc]; omega)) (by decide) (by decide) ?_
  exact ⟨rfl, rfl⟩
set_option maxRecDepth 65536 in
set_option maxHeartbeats 4000000 in
theorem m_FreeWindow_partner_ {l : Launch} {Z : State} {a0 : Array Value} {n0 : Nat} {oa : Addr} (hw : ∀ d ∈ tables_1, d.before a0 Z = true) (hst : Sta Z Z.heap "java/util/ArrayList" "DEFAULTCAPACITY_EMPTY_ELEMENTDATA" "[Ljava/lang/Object;" (.ref oa)) {G : Ghost} {j : Nat} {u w y z p : Value} (hO : G[j]? = some (.inl 4, [u, w, y, p, z])) (hr : p.isRef = true) (hq : sc G.length p = true) :
    Meth sg l Z n0 [oa] (⟨"com/example/guest_panes/guestpanes/FreeWindow", "partner", "()Lcom/example/guest_panes/guestpanes/FreeWindow;"⟩ : MethodName) prog_10_method_5_code 1 (some (.object "com/example/guest_panes/guestpanes/FreeWindow")) ({ frames := 0, cells := 0, slots := 0, locals := 0 } : Room) [.ref j] G (fun v G' => v = some p ∧ G' = G) := by
  refine Meth.of (a0 := a0) (tab := tables_1) (Ls := [.val (.ref j)]) pn_prog_10_method_5_code hw sgOk (fun ad m => ent rfl ad m) ?_
  intro J W
  refine W.aloadN (pc' := 1) d_prog_10_method_5_code_0 rfl rfl ?_
  refine W.getfield (pc' := 4) (host := "") 3 d_prog_10_method_5_code_1 (Or.inl (tw 162 rfl)) (Or.inl rfl) hO rfl rfl rfl ?_
  refine W.areturn d_prog_10_method_5_code_4 rfl hr hq (by decide) (by decide) ?_
  exact ⟨rfl, rfl⟩
/-- an edge pair that a Rect takes -/
def own_rc (le to_ ri bo : Int32) : Prop := (¬ ri < le ∧ ¬ bo < to_) ∧ (¬ (2147483647 : Int64) < ri.toInt64 - le.toInt64 ∧ ¬ (2147483647 : Int64) < bo.toInt64 - to_.toInt64)
set_option maxRecDepth 65536 in
set_option maxHeartbeats 4000000 in
theorem m_Rect__init__IIII {l : Launch} {Z : State} {a0 : Array Value} {n0 : Nat} {oa : Addr} (hw : ∀ d ∈ tables_1, d.before a0 Z = true) (hst : Sta Z Z.heap "java/util/ArrayList" "DEFAULTCAPACITY_EMPTY_ELEMENTDATA" "[Ljava/lang/Object;" (.ref oa)) {G : Ghost} {j : Nat} {u w y z : Value} {le to_ ri bo : Int32} (hO : G[j]? = some (.inl 3, [u, w, y, z])) (hl : Nat.ble 1 j = true) (hc : own_rc le to_ ri bo) :
    Meth sg l Z n0 [oa] (⟨"com/example/guest_panes/guestpanes/Rect", "<init>", "(IIII)V"⟩ : MethodName) prog_19_method_1_code 5 none ({ frames := 2, cells := 0, slots := 0, locals := 24 } : Room) [.ref j, .int le, .int to_, .int ri, .int bo] G (fun v G' => v = none ∧ G' = G.set j (.inl 3, [.int le, .int to_, .int ri, .int bo])) := by
  refine Meth.of (a0 := a0) (tab := tables_1) (Ls := [.val (.ref j), .val (.int le), .val (.int to_), .val (.int ri), .val (.int bo)]) pn_prog_19_method_1_code hw sgOk (fun ad m => ent rfl ad m) ?_
  intro J W
  have hj := lt_some hO
  refine W.aloadN (pc' := 1) d_prog_19_method_1_code_0 rfl rfl ?_
  refine W.callInit (pc' := 4) d_prog_19_method_1_code_1 (tw 58 rfl) (tw 59 rfl) (tw 61 rfl) (tw 62 rfl) (m_Record__init__ hw hst) (lenOf pd0 rfl) rfl (by first | rfl | (simp [scS, sc, *]; done) | (simp [scS, sc]; omega)) rfl rfl rfl (by decide) (by decide) (fun v G' hQ => ?_)
  obtain ⟨rfl, hG_⟩ := hQ
  rw [hG_]
  clear hG_
  try simp only [List.length_cons, List.length_nil, Nat.reduceAdd, Nat.zero_add, List.cons_append, List.nil_append, List.set_cons_zero, List.set_cons_succ, Option.toList]
  refine W.iloadN (pc' := 5) d_prog_19_method_1_code_4 rfl ?_
  refine W.iloadN (pc' := 6) d_prog_19_method_1_code_5 rfl ?_
  refine W.icmp_lt (pc' := 15) (pc2 := 9) d_prog_19_method_1_code_6 (fun hz_ => absurd hz_ (hc.1.1)) (fun _ => ?_)
  refine W.iload (pc' := 11) d_prog_19_method_1_code_9 rfl ?_
  refine W.iloadN (pc' := 12) d_prog_19_method_1_code_11 rfl ?_
  refine W.icmp_ge (pc' := 36) (pc2 := 15) d_prog_19_method_1_code_12 (fun hz_ => absurd hz_ (hc.1.2)) (fun _ => ?_)
  refine W.iloadN (pc' := 37) d_prog_19_method_1_code_36 rfl ?_
  refine W.i2l (pc' := 38) d_prog_19_method_1_code_37 ?_
  refine W.iloadN (pc' := 39) d_prog_19_method_1_code_38 rfl ?_
  refine W.i2l (pc' := 40) d_prog_19_method_1_code_39 ?_
  refine W.lsub (pc' := 41) d_prog_19_method_1_code_40 ?_
  refine W.ldc2J (pc' := 44) d_prog_19_method_1_code_41 (tw 64 rfl) ?_
  refine W.lcmp (pc' := 45) d_prog_19_method_1_code_44 ?_
  refine W.ifl_gt (pc' := 61) (pc2 := 48) d_prog_19_method_1_code_45 (fun hz_ => absurd hz_ (hc.2.1)) (fun _ => ?_)
  refine W.iload (pc' := 50) d_prog_19_method_1_code_48 rfl ?_
  refine W.i2l (pc' := 51) d_prog_19_method_1_code_50 ?_
  refine W.iloadN (pc' := 52) d_prog_19_method_1_code_51 rfl ?_
  refine W.i2l (pc' := 53) d_prog_19_method_1_code_52 ?_
  refine W.lsub (pc' := 54) d_prog_19_method_1_code_53 ?_
  refine W.ldc2J (pc' := 57) d_prog_19_method_1_code_54 (tw 64 rfl) ?_
  refine W.lcmp (pc' := 58) d_prog_19_method_1_code_57 ?_
  refine W.ifl_le (pc' := 82) (pc2 := 61) d_prog_19_method_1_code_58 (fun hz_ => absurd hz_ (hc.2.2)) (fun _ => ?_)
  refine W.aloadN (pc' := 83) d_prog_19_method_1_code_82 rfl rfl ?_
  refine W.iloadN (pc' := 84) d_prog_19_method_1_code_83 rfl ?_
  refine W.putfield (pc' := 87) (host := "") 0 d_prog_19_method_1_code_84 (Or.inl (tw 65 rfl)) (Or.inl rfl) hO hl rfl rfl (Or.inr ⟨tw 66 rfl, rfl, rfl⟩) (fun _ => rfl) (fun _ => rfl) rfl ?_
  try simp only [List.length_cons, List.length_nil, Nat.reduceAdd, Nat.zero_add, List.cons_append, List.nil_append, List.set_cons_zero, List.set_cons_succ, Option.toList]
  refine W.aloadN (pc' := 88) d_prog_19_method_1_code_87 rfl rfl ?_
  refine W.iloadN (pc' := 89) d_prog_19_method_1_code_88 rfl ?_
  refine W.putfield (pc' := 92) (host := "") 1 d_prog_19_method_1_code_89 (Or.inl (tw 67 rfl)) (Or.inl rfl) (get_set hO) hl rfl rfl (Or.inr ⟨tw 68 rfl, rfl, rfl⟩) (fun _ => rfl) (fun _ => rfl) rfl ?_
  try simp only [List.length_cons, List.length_nil, Nat.reduceAdd, Nat.zero_add, List.cons_append, List.nil_append, List.set_cons_zero, List.set_cons_succ, Option.toList]
  refine W.aloadN (pc' := 93) d_prog_19_method_1_code_92 rfl rfl ?_
  refine W.iloadN (pc' := 94) d_prog_19_method_1_code_93 rfl ?_
  refine W.putfield (pc' := 97) (host := "") 2 d_prog_19_method_1_code_94 (Or.inl (tw 69 rfl)) (Or.inl rfl) (by rw [List.set_set]; exact get_set hO) hl rfl rfl (Or.inr ⟨tw 70 rfl, rfl, rfl⟩) (fun _ => rfl) (fun _ => rfl) rfl ?_
  try simp only [List.length_cons, List.length_nil, Nat.reduceAdd, Nat.zero_add, List.cons_append, List.nil_append, List.set_cons_zero, List.set_cons_succ, Option.toList]
  refine W.aloadN (pc' := 98) d_prog_19_method_1_code_97 rfl rfl ?_
  refine W.iload (pc' := 100) d_prog_19_method_1_code_98 rfl ?_
  refine W.putfield (pc' := 103) (host := "") 3 d_prog_19_method_1_code_100 (Or.inl (tw 71 rfl)) (Or.inl rfl) (by rw [List.set_set, List.set_set]; exact get_set hO) hl rfl rfl (Or.inr ⟨tw 72 rfl, rfl, rfl⟩) (fun _ => rfl) (fun _ => rfl) rfl ?_
  try simp only [List.length_cons, List.length_nil, Nat.reduceAdd, Nat.zero_add, List.cons_append, List.nil_append, List.set_cons_zero, List.set_cons_succ, Option.toList]
  refine W.return_ d_prog_19_method_1_code_103 (by decide) (by decide) ?_
  exact ⟨rfl, by simp only [List.set_set]⟩
def own_ax (x y : Int32) : Prop := ¬ (x ^^^ (x + y)) &&& (y ^^^ (x + y)) < 0
set_option maxRecDepth 65536 in
set_option maxHeartbeats 4000000 in
theorem m_Math_addExact_II {l : Launch} {Z : State} {a0 : Array Value} {n0 : Nat} {oa : Addr} (hw : ∀ d ∈ tables_1, d.before a0 Z = true) (hst : Sta Z Z.heap "java/util/ArrayList" "DEFAULTCAPACITY_EMPTY_ELEMENTDATA" "[Ljava/lang/Object;" (.ref oa)) {G : Ghost} {x_ y : Int32} (h : own_ax x_ y) :
    Meth sg l Z n0 [oa] (⟨"java/lang/Math", "addExact", "(II)I"⟩ : MethodName) jdk_29_method_24_code 3 (some .int) ({ frames := 0, cells := 0, slots := 0, locals := 0 } : Room) [.int x_, .int y] G (fun v G' => v = some (.int (x_ + y)) ∧ G' = G) := by
  refine Meth.of (a0 := a0) (tab := tables_1) (Ls := [.val (.int x_), .val (.int y), .unset]) pn_jdk_29_method_24_code hw sgOk (fun ad m => ent rfl ad m) ?_
  intro J W
  refine W.iloadN (pc' := 1) d_jdk_29_method_24_code_0 rfl ?_
  refine W.iloadN (pc' := 2) d_jdk_29_method_24_code_1 rfl ?_
  refine W.iadd (pc' := 3) d_jdk_29_method_24_code_2 ?_
  refine W.istoreN (pc' := 4) (i' := 2) d_jdk_29_method_24_code_3 rfl ?_
  try simp only [List.length_cons, List.length_nil, Nat.reduceAdd, Nat.zero_add, List.cons_append, List.nil_append, List.set_cons_zero, List.set_cons_succ, Option.toList]
  refine W.iloadN (pc' := 5) d_jdk_29_method_24_code_4 rfl ?_
  refine W.iloadN (pc' := 6) d_jdk_29_method_24_code_5 rfl ?_
  refine W.ixor (pc' := 7) d_jdk_29_method_24_code_6 ?_
  refine W.iloadN (pc' := 8) d_jdk_29_method_24_code_7 rfl ?_
  refine W.iloadN (pc' := 9) d_jdk_29_method_24_code_8 rfl ?_
  refine W.ixor (pc' := 10) d_jdk_29_method_24_code_9 ?_
  refine W.iand (pc' := 11) d_jdk_29_method_24_code_10 ?_
  refine W.if_ge (pc' := 24) (pc2 := 14) d_jdk_29_method_24_code_11 (fun hz_ => absurd hz_ (h)) (fun _ => ?_)
  refine W.iloadN (pc' := 25) d_jdk_29_method_24_code_24 rfl ?_
  refine W.ireturn d_jdk_29_method_24_code_25 (by decide) (by decide) ?_
  exact ⟨rfl, rfl⟩
def own_of (le to_ ri bo dx dy : Int32) : Prop := (own_ax le dx ∧ own_ax to_ dy ∧ own_ax ri dx ∧ own_ax bo dy) ∧ own_rc (le + dx) (to_ + dy) (ri + dx) (bo + dy)
set_option maxRecDepth 65536 in
set_option maxHeartbeats 4000000 in
theorem m_Rect_offset_II {l : Launch} {Z : State} {a0 : Array Value} {n0 : Nat} {oa : Addr} (hw : ∀ d ∈ tables_1, d.before a0 Z = true) (hst : Sta Z Z.heap "java/util/ArrayList" "DEFAULTCAPACITY_EMPTY_ELEMENTDATA" "[Ljava/lang/Object;" (.ref oa)) {G : Ghost} {j : Nat} {le to_ ri bo : Int32} {dx dy : Int32} (hO : G[j]? = some (.inl 3, [.int le, .int to_, .int ri, .int bo])) (hc : own_of le to_ ri bo dx dy) :
    Meth sg l Z n0 [oa] (⟨"com/example/guest_panes/guestpanes/Rect", "offset", "(II)Lcom/example/guest_panes/guestpanes/Rect;"⟩ : MethodName) prog_19_method_6_code 3 (some (.object "com/example/guest_panes/guestpanes/Rect")) ({ frames := 3, cells := 1, slots := 4, locals := 46 } : Room) [.ref j, .int dx, .int dy] G (fun v G' => v = some (.ref G.length) ∧ G' = G ++ [(.inl 3, [.int (le + dx), .int (to_ + dy), .int (ri + dx), .int (bo + dy)])]) := by
  refine Meth.of (a0 := a0) (tab := tables_1) (Ls := [.val (.ref j), .val (.int dx), .val (.int dy)]) pn_prog_19_method_6_code hw sgOk (fun ad m => ent rfl ad m) ?_
  intro J W
  have hj := lt_some hO
  refine W.new (pc' := 3) (vs := [.int 0, .int 0, .int 0, .int 0]) 3 d_prog_19_method_6_code_0 rfl (tw 193 rfl) (tw 54 rfl) rfl (by first | rfl | (simp [scS, sc, *]; done) | (simp [scS, sc]; omega)) (by decide) (by decide) ?_
  try simp only [List.length_cons, List.length_nil, Nat.reduceAdd, Nat.zero_add, List.cons_append, List.nil_append, List.set_cons_zero, List.set_cons_succ, Option.toList]
  refine W.dup (pc' := 4) d_prog_19_method_6_code_3 rfl ?_
  refine W.aloadN (pc' := 5) d_prog_19_method_6_code_4 rfl rfl ?_
  refine W.getfield (pc' := 8) (host := "") 0 d_prog_19_method_6_code_5 (Or.inl (tw 65 rfl)) (Or.inl rfl) (get_app hO) rfl rfl rfl ?_
  refine W.iloadN (pc' := 9) d_prog_19_method_6_code_8 rfl ?_
  refine W.callStatic (pc' := 12) d_prog_19_method_6_code_9 (tw 194 rfl) (tw 195 rfl) (tw 150 rfl) (tw 196 rfl) (m_Math_addExact_II hw hst hc.1.1) (lenOf pd1 rfl) rfl (by first | rfl | (simp [scS, sc, *]; done) | (simp [scS, sc]; omega)) rfl rfl rfl (by decide) (by decide) (fun v G' hQ => ?_)
  obtain ⟨rfl, hG_⟩ := hQ
  rw [hG_]
  clear hG_
  try simp only [List.length_cons, List.length_nil, Nat.reduceAdd, Nat.zero_add, List.cons_append, List.nil_append, List.set_cons_zero, List.set_cons_succ, Option.toList]
  refine W.aloadN (pc' := 13) d_prog_19_method_6_code_12 rfl rfl ?_
  refine W.getfield (pc' := 16) (host := "") 1 d_prog_19_method_6_code_13 (Or.inl (tw 67 rfl)) (Or.inl rfl) (get_app hO) rfl rfl rfl ?_
  refine W.iloadN (pc' := 17) d_prog_19_method_6_code_16 rfl ?_
  refine W.callStatic (pc' := 20) d_prog_19_method_6_code_17 (tw 194 rfl) (tw 195 rfl) (tw 150 rfl) (tw 196 rfl) (m_Math_addExact_II hw hst hc.1.2.1) (lenOf pd1 rfl) rfl (by first | rfl | (simp [scS, sc, *]; done) | (simp [scS, sc]; omega)) rfl rfl rfl (by decide) (by decide) (fun v G' hQ => ?_)
  obtain ⟨rfl, hG_⟩ := hQ
  rw [hG_]
  clear hG_
  try simp only [List.length_cons, List.length_nil, Nat.reduceAdd, Nat.zero_add, List.cons_append, List.nil_append, List.set_cons_zero, List.set_cons_succ, Option.toList]
  refine W.aloadN (pc' := 21) d_prog_19_method_6_code_20 rfl rfl ?_
  refine W.getfield (pc' := 24) (host := "") 2 d_prog_19_method_6_code_21 (Or.inl (tw 69 rfl)) (Or.inl rfl) (get_app hO) rfl rfl rfl ?_
  refine W.iloadN (pc' := 25) d_prog_19_method_6_code_24 rfl ?_
  refine W.callStatic (pc' := 28) d_prog_19_method_6_code_25 (tw 194 rfl) (tw 195 rfl) (tw 150 rfl) (tw 196 rfl) (m_Math_addExact_II hw hst hc.1.2.2.1) (lenOf pd1 rfl) rfl (by first | rfl | (simp [scS, sc, *]; done) | (simp [scS, sc]; omega)) rfl rfl rfl (by decide) (by decide) (fun v G' hQ => ?_)
  obtain ⟨rfl, hG_⟩ := hQ
  rw [hG_]
  clear hG_
  try simp only [List.length_cons, List.length_nil, Nat.reduceAdd, Nat.zero_add, List.cons_append, List.nil_append, List.set_cons_zero, List.set_cons_succ, Option.toList]
  refine W.aloadN (pc' := 29) d_prog_19_method_6_code_28 rfl rfl ?_
  refine W.getfield (pc' := 32) (host := "") 3 d_prog_19_method_6_code_29 (Or.inl (tw 71 rfl)) (Or.inl rfl) (get_app hO) rfl rfl rfl ?_
  refine W.iloadN (pc' := 33) d_prog_19_method_6_code_32 rfl ?_
  refine W.callStatic (pc' := 36) d_prog_19_method_6_code_33 (tw 194 rfl) (tw 195 rfl) (tw 150 rfl) (tw 196 rfl) (m_Math_addExact_II hw hst hc.1.2.2.2) (lenOf pd1 rfl) rfl (by first | rfl | (simp [scS, sc, *]; done) | (simp [scS, sc]; omega)) rfl rfl rfl (by decide) (by decide) (fun v G' hQ => ?_)
  obtain ⟨rfl, hG_⟩ := hQ
  rw [hG_]
  clear hG_
  try simp only [List.length_cons, List.length_nil, Nat.reduceAdd, Nat.zero_add, List.cons_append, List.nil_append, List.set_cons_zero, List.set_cons_succ, Option.toList]
  refine W.callInit (pc' := 39) d_prog_19_method_6_code_36 (tw 197 rfl) (tw 56 rfl) (tw 54 rfl) (tw 57 rfl) (m_Rect__init__IIII (u := .int 0) (w := .int 0) (y := .int 0) (z := .int 0) hw hst (by simp) (by simp; omega) hc.2) (lenOf pd2 rfl) rfl (by first | rfl | (simp [scS, sc, *]; done) | (simp [scS, sc]; omega)) rfl rfl rfl (by decide) (by decide) (fun v G' hQ => ?_)
  obtain ⟨rfl, rfl⟩ := hQ
  rw [set_last]
  try simp only [List.length_cons, List.length_nil, Nat.reduceAdd, Nat.zero_add, List.cons_append, List.nil_append, List.set_cons_zero, List.set_cons_succ, Option.toList]
  refine W.areturn d_prog_19_method_6_code_39 rfl rfl (by first | rfl | (simp [scS, sc, *]; done) | (simp [scS, sc]; omega)) (by decide) (by decide) ?_
  exact ⟨rfl, rfl⟩
set_option maxRecDepth 65536 in
set_option maxHeartbeats 4000000 in
theorem m_FreeWindow_rightOf_A {l : Launch} {Z : State} {a0 : Array Value} {n0 : Nat} {oa : Addr} (hw : ∀ d ∈ tables_1, d.before a0 Z = true) (hst : Sta Z Z.heap "java/util/ArrayList" "DEFAULTCAPACITY_EMPTY_ELEMENTDATA" "[Ljava/lang/Object;" (.ref oa)) {G : Ghost} {j : Nat} {le to_ ri bo : Int32} (hO : G[j]? = some (.inl 3, [.int le, .int to_, .int ri, .int bo])) (hc : own_of le to_ ri bo (ri - le) 0) :
    Meth sg l Z n0 [oa] (⟨"com/example/guest_panes/guestpanes/FreeWindow", "rightOf", "(Lcom/example/guest_panes/guestpanes/Rect;)Lcom/example/guest_panes/guestpanes/Rect;"⟩ : MethodName) prog_10_method_8_code 1 (some (.object "com/example/guest_panes/guestpanes/Rect")) ({ frames := 4, cells := 1, slots := 4, locals := 60 } : Room) [.ref j] G (fun v G' => v = some (.ref G.length) ∧ G' = G ++ [(.inl 3, [.int (le + (ri - le)), .int (to_ + 0), .int (ri + (ri - le)), .int (bo + 0)])]) := by
  refine Meth.of (a0 := a0) (tab := tables_1) (Ls := [.val (.ref j)]) pn_prog_10_method_8_code hw sgOk (fun ad m => ent rfl ad m) ?_
  intro J W
  have hj := lt_some hO
  refine W.aloadN (pc' := 1) d_prog_10_method_8_code_0 rfl rfl ?_
  refine W.aloadN (pc' := 2) d_prog_10_method_8_code_1 rfl rfl ?_
  refine W.callVirtual (pc' := 5) d_prog_10_method_8_code_2 (tw 183 rfl) (tw 184 rfl) (tw 186 rfl) (tw 185 rfl) (tw 54 rfl) (tw 187 rfl) hO rfl (m_Rect_width_ hw hst hO) (lenOf pd3 rfl) rfl (by first | rfl | (simp [scS, sc, *]; done) | (simp [scS, sc]; omega)) rfl rfl rfl (by decide) (by decide) (fun v G' hQ => ?_)
  obtain ⟨rfl, hG_⟩ := hQ
  rw [hG_]
  clear hG_
  try simp only [List.length_cons, List.length_nil, Nat.reduceAdd, Nat.zero_add, List.cons_append, List.nil_append, List.set_cons_zero, List.set_cons_succ, Option.toList]
  refine W.iconst (pc' := 6) (0) d_prog_10_method_8_code_5 rfl ?_
  refine W.callVirtual (pc' := 9) d_prog_10_method_8_code_6 (tw 188 rfl) (tw 189 rfl) (tw 191 rfl) (tw 190 rfl) (tw 54 rfl) (tw 192 rfl) hO rfl (m_Rect_offset_II hw hst hO hc) (lenOf pd4 rfl) rfl (by first | rfl | (simp [scS, sc, *]; done) | (simp [scS, sc]; omega)) rfl rfl rfl (by decide) (by decide) (fun v G' hQ => ?_)
  obtain ⟨rfl, rfl⟩ := hQ
  try simp only [List.length_cons, List.length_nil, Nat.reduceAdd, Nat.zero_add, List.cons_append, List.nil_append, List.set_cons_zero, List.set_cons_succ, Option.toList]
  refine W.areturn d_prog_10_method_8_code_9 rfl rfl (by first | rfl | (simp [scS, sc, *]; done) | (simp [scS, sc]; omega)) (by decide) (by decide) ?_
  exact ⟨rfl, rfl⟩
set_option maxRecDepth 65536 in
set_option maxHeartbeats 4000000 in
theorem m_FreeWindow_partnerBounds_A_1 {l : Launch} {Z : State} {a0 : Array Value} {n0 : Nat} {oa : Addr} (hw : ∀ d ∈ tables_1, d.before a0 Z = true) (hst : Sta Z Z.heap "java/util/ArrayList" "DEFAULTCAPACITY_EMPTY_ELEMENTDATA" "[Ljava/lang/Object;" (.ref oa)) {G : Ghost} {j jr : Nat} {u w y z : Value} {le to_ ri bo : Int32} (hO : G[j]? = some (.inl 4, [u, w, y, z, .int 1])) (hR : G[jr]? = some (.inl 3, [.int le, .int to_, .int ri, .int bo])) (hc : own_of le to_ ri bo (ri - le) 0) :
    Meth sg l Z n0 [oa] (⟨"com/example/guest_panes/guestpanes/FreeWindow", "partnerBounds", "(Lcom/example/guest_panes/guestpanes/Rect;)Lcom/example/guest_panes/guestpanes/Rect;"⟩ : MethodName) prog_10_method_7_code 2 (some (.object "com/example/guest_panes/guestpanes/Rect")) ({ frames := 5, cells := 1, slots := 4, locals := 72 } : Room) [.ref j, .ref jr] G (fun v G' => v = some (.ref G.length) ∧ G' = G ++ [(.inl 3, [.int (le + (ri - le)), .int (to_ + 0), .int (ri + (ri - le)), .int (bo + 0)])]) := by
  refine Meth.of (a0 := a0) (tab := tables_1) (Ls := [.val (.ref j), .val (.ref jr)]) pn_prog_10_method_7_code hw sgOk (fun ad m => ent rfl ad m) ?_
  intro J W
  have hj := lt_some hO
  have hjr := lt_some hR
  refine W.aloadN (pc' := 1) d_prog_10_method_7_code_0 rfl rfl ?_
  refine W.getfield (pc' := 4) (host := "") 4 d_prog_10_method_7_code_1 (Or.inl (tw 164 rfl)) (Or.inl rfl) hO rfl rfl rfl ?_
  refine W.if_eq (pc' := 14) (pc2 := 7) d_prog_10_method_7_code_4 (fun hz_ => absurd hz_ (by decide)) (fun _ => ?_)
  refine W.aloadN (pc' := 8) d_prog_10_method_7_code_7 rfl rfl ?_
  refine W.callStatic (pc' := 11) d_prog_10_method_7_code_8 (tw 180 rfl) (tw 181 rfl) (tw 75 rfl) (tw 182 rfl) (m_FreeWindow_rightOf_A hw hst hR hc) (lenOf pd5 rfl) rfl (by first | rfl | (simp [scS, sc, *]; done) | (simp [scS, sc]; omega)) rfl rfl rfl (by decide) (by decide) (fun v G' hQ => ?_)
  obtain ⟨rfl, rfl⟩ := hQ
  try simp only [List.length_cons, List.length_nil, Nat.reduceAdd, Nat.zero_add, List.cons_append, List.nil_append, List.set_cons_zero, List.set_cons_succ, Option.toList]
  refine W.goto (pc' := 24) d_prog_10_method_7_code_11 ?_
  refine W.areturn d_prog_10_method_7_code_24 rfl rfl (by first | rfl | (simp [scS, sc, *]; done) | (simp [scS, sc]; omega)) (by decide) (by decide) ?_
  exact ⟨rfl, rfl⟩
set_option maxRecDepth 65536 in
set_option maxHeartbeats 4000000 in
theorem m_FreeWindow_partnerBounds_A_0 {l : Launch} {Z : State} {a0 : Array Value} {n0 : Nat} {oa : Addr} (hw : ∀ d ∈ tables_1, d.before a0 Z = true) (hst : Sta Z Z.heap "java/util/ArrayList" "DEFAULTCAPACITY_EMPTY_ELEMENTDATA" "[Ljava/lang/Object;" (.ref oa)) {G : Ghost} {j jr : Nat} {u w y z : Value} {le to_ ri bo : Int32} (hO : G[j]? = some (.inl 4, [u, w, y, z, .int 0])) (hR : G[jr]? = some (.inl 3, [.int le, .int to_, .int ri, .int bo])) (hc : own_of le to_ ri bo (-(ri - le)) 0) :
    Meth sg l Z n0 [oa] (⟨"com/example/guest_panes/guestpanes/FreeWindow", "partnerBounds", "(Lcom/example/guest_panes/guestpanes/Rect;)Lcom/example/guest_panes/guestpanes/Rect;"⟩ : MethodName) prog_10_method_7_code 2 (some (.object "com/example/guest_panes/guestpanes/Rect")) ({ frames := 5, cells := 1, slots := 4, locals := 72 } : Room) [.ref j, .ref jr] G (fun v G' => v = some (.ref G.length) ∧ G' = G ++ [(.inl 3, [.int (le + (-(ri - le))), .int (to_ + 0), .int (ri + (-(ri - le))), .int (bo + 0)])]) := by
  refine Meth.of (a0 := a0) (tab := tables_1) (Ls := [.val (.ref j), .val (.ref jr)]) pn_prog_10_method_7_code hw sgOk (fun ad m => ent rfl ad m) ?_
  intro J W
  have hj := lt_some hO
  have hjr := lt_some hR
  refine W.aloadN (pc' := 1) d_prog_10_method_7_code_0 rfl rfl ?_
  refine W.getfield (pc' := 4) (host := "") 4 d_prog_10_method_7_code_1 (Or.inl (tw 164 rfl)) (Or.inl rfl) hO rfl rfl rfl ?_
  refine W.if_eq (pc' := 14) (pc2 := 7) d_prog_10_method_7_code_4 (fun _ => ?_) (fun hz_ => absurd (rfl) hz_)
  refine W.aloadN (pc' := 15) d_prog_10_method_7_code_14 rfl rfl ?_
  refine W.aloadN (pc' := 16) d_prog_10_method_7_code_15 rfl rfl ?_
  refine W.callVirtual (pc' := 19) d_prog_10_method_7_code_16 (tw 183 rfl) (tw 184 rfl) (tw 186 rfl) (tw 185 rfl) (tw 54 rfl) (tw 187 rfl) hR rfl (m_Rect_width_ hw hst hR) (lenOf pd3 rfl) rfl (by first | rfl | (simp [scS, sc, *]; done) | (simp [scS, sc]; omega)) rfl rfl rfl (by decide) (by decide) (fun v G' hQ => ?_)
  obtain ⟨rfl, hG_⟩ := hQ
  rw [hG_]
  clear hG_
  try simp only [List.length_cons, List.length_nil, Nat.reduceAdd, Nat.zero_add, List.cons_append, List.nil_append, List.set_cons_zero, List.set_cons_succ, Option.toList]
  refine W.ineg (pc' := 20) d_prog_10_method_7_code_19 ?_
  refine W.iconst (pc' := 21) (0) d_prog_10_method_7_code_20 rfl ?_
  refine W.callVirtual (pc' := 24) d_prog_10_method_7_code_21 (tw 188 rfl) (tw 189 rfl) (tw 191 rfl) (tw 190 rfl) (tw 54 rfl) (tw 192 rfl) hR rfl (m_Rect_offset_II hw hst hR hc) (lenOf pd4 rfl) rfl (by first | rfl | (simp [scS, sc, *]; done) | (simp [scS, sc]; omega)) rfl rfl rfl (by decide) (by decide) (fun v G' hQ => ?_)
  obtain ⟨rfl, rfl⟩ := hQ
  try simp only [List.length_cons, List.length_nil, Nat.reduceAdd, Nat.zero_add, List.cons_append, List.nil_append, List.set_cons_zero, List.set_cons_succ, Option.toList]
  refine W.areturn d_prog_10_method_7_code_24 rfl rfl (by first | rfl | (simp [scS, sc, *]; done) | (simp [scS, sc]; omega)) (by decide) (by decide) ?_
  exact ⟨rfl, rfl⟩
theorem own_sub32 (a b : Int32) : (a.toInt64 - b.toInt64).toInt = a.toInt - b.toInt := by
  have h1 := own_i32 a; have h2 := own_i32 b
  rw [Jvm.Pilot.@@N@@.own_sub] <;> rw [own_up, own_up] <;> omega
theorem own_axI {x y : Int32} (h1 : -2147483648 ≤ x.toInt + y.toInt) (h2 : x.toInt + y.toInt ≤ 2147483647) : own_ax x y := by
  unfold own_ax
  rw [XT.and_neg32, XT.xor_neg32, XT.xor_neg32]
  simp only [Int32.lt_iff_toInt_lt, own_iadd h1 h2, show (0 : Int32).toInt = 0 from by decide]
  omega
theorem own_rcI {l_ t r b : Int32} (h1 : l_.toInt ≤ r.toInt) (h2 : t.toInt ≤ b.toInt) (h3 : r.toInt - l_.toInt ≤ 2147483647) (h4 : b.toInt - t.toInt ≤ 2147483647) : own_rc l_ t r b := by
  refine ⟨⟨?_, ?_⟩, ?_, ?_⟩
  · rw [Int32.lt_iff_toInt_lt]; omega
  · rw [Int32.lt_iff_toInt_lt]; omega
  · rw [Int64.lt_iff_toInt_lt, own_sub32, show (2147483647 : Int64).toInt = 2147483647 from by decide]; omega
  · rw [Int64.lt_iff_toInt_lt, own_sub32, show (2147483647 : Int64).toInt = 2147483647 from by decide]; omega
theorem own_m16 (b : Int32) : 0 ≤ (b &&& 65535).toInt ∧ (b &&& 65535).toInt ≤ 65535 := by
  have h : (b &&& 65535).toBitVec.toNat ≤ 65535 := by
    rw [Int32.toBitVec_and, BitVec.toNat_and]; exact Nat.and_le_right
  have e : (b &&& 65535).toInt = (b &&& 65535).toBitVec.toNat := by
    show (b &&& 65535).toBitVec.toInt = _
    exact BitVec.toInt_eq_toNat_of_lt (by omega)
  omega
theorem own_q (a : Int32) : -536870912 ≤ (a >>> (2 &&& 31)).toInt ∧ (a >>> (2 &&& 31)).toInt ≤ 536870911 := by
  have h := own_i32 a
  rw [Jvm.Kit.i32_shr a (2 &&& 31) (k := 2) (by decide)]
  omega
/-- what the law's numbers keep to -/
def own_in (le to_ wd ht : Int32) : Prop := (-536870912 ≤ le.toInt ∧ le.toInt ≤ 536870911) ∧ (-536870912 ≤ to_.toInt ∧ to_.toInt ≤ 536870911) ∧ (1 ≤ wd.toInt ∧ wd.toInt ≤ 65536) ∧ (0 ≤ ht.toInt ∧ ht.toInt ≤ 65535)
theorem own_inI (a b c d : Int32) : own_in (a >>> (2 &&& 31)) (b >>> (2 &&& 31)) ((c &&& 65535) + 1) (d &&& 65535) := by
  refine ⟨own_q a, own_q b, ?_, own_m16 d⟩
  have h := own_m16 c
  have e1 : (1 : Int32).toInt = 1 := by decide
  rw [own_iadd] <;> rw [e1] <;> omega
theorem own_w {le wd : Int32} : le + wd - le = wd := by rw [Int32.add_comm, Int32.add_sub_cancel]
theorem own_ri {le to_ wd ht : Int32} (h : own_in le to_ wd ht) : (le + wd).toInt = le.toInt + wd.toInt := by obtain ⟨h1, h2, h3, h4⟩ := h; exact own_iadd (by omega) (by omega)
theorem own_bo {le to_ wd ht : Int32} (h : own_in le to_ wd ht) : (to_ + ht).toInt = to_.toInt + ht.toInt := by obtain ⟨h1, h2, h3, h4⟩ := h; exact own_iadd (by omega) (by omega)
theorem own_rc0 {le to_ wd ht : Int32} (h : own_in le to_ wd ht) : own_rc le to_ (le + wd) (to_ + ht) := by
  have e1 := own_ri h; have e2 := own_bo h; obtain ⟨h1, h2, h3, h4⟩ := h
  exact own_rcI (by omega) (by omega) (by omega) (by omega)
theorem own_of1 {le to_ wd ht : Int32} (h : own_in le to_ wd ht) : own_of le to_ (le + wd) (to_ + ht) (le + wd - le) 0 := by
  have e1 := own_ri h; have e2 := own_bo h; obtain ⟨h1, h2, h3, h4⟩ := h
  have z : (0 : Int32).toInt = 0 := by decide
  rw [own_w]
  have e3 : (le + wd + wd).toInt = le.toInt + wd.toInt + wd.toInt := by rw [own_iadd, e1] <;> rw [e1] <;> omega
  have e4 : (to_ + 0).toInt = to_.toInt := by rw [own_iadd] <;> rw [z] <;> omega
  have e5 : (to_ + ht + 0).toInt = to_.toInt + ht.toInt := by rw [own_iadd, e2] <;> rw [z] <;> omega
  exact ⟨⟨own_axI (by omega) (by omega), own_axI (by omega) (by omega), own_axI (by omega) (by omega), own_axI (by omega) (by omega)⟩, own_rcI (by omega) (by omega) (by omega) (by omega)⟩
theorem own_of0 {le to_ wd ht : Int32} (h : own_in le to_ wd ht) : own_of le to_ (le + wd) (to_ + ht) (-(le + wd - le)) 0 := by
  have e1 := own_ri h; have e2 := own_bo h; obtain ⟨h1, h2, h3, h4⟩ := h
  have z : (0 : Int32).toInt = 0 := by decide
  rw [own_w]
  have en : (-wd).toInt = -wd.toInt := Jvm.Kit.i32_neg (by omega)
  have e3 : (le + wd + -wd).toInt = le.toInt + wd.toInt + -wd.toInt := by rw [own_iadd, e1, en] <;> rw [e1, en] <;> omega
  have e6 : (le + -wd).toInt = le.toInt + -wd.toInt := by rw [own_iadd, en] <;> rw [en] <;> omega
  have e4 : (to_ + 0).toInt = to_.toInt := by rw [own_iadd] <;> rw [z] <;> omega
  have e5 : (to_ + ht + 0).toInt = to_.toInt + ht.toInt := by rw [own_iadd, e2] <;> rw [z] <;> omega
  exact ⟨⟨own_axI (by omega) (by omega), own_axI (by omega) (by omega), own_axI (by omega) (by omega), own_axI (by omega) (by omega)⟩, own_rcI (by omega) (by omega) (by omega) (by omega)⟩
theorem own_add0 (a : Int32) : a + 0 = a := Int32.add_zero a
set_option maxRecDepth 65536 in
set_option maxHeartbeats 4000000 in
theorem m_check_n {l : Launch} {Z : State} {a0 : Array Value} {n0 : Nat} {oa : Addr} (hw : ∀ d ∈ tables_1, d.before a0 Z = true) (hst : Sta Z Z.heap "java/util/ArrayList" "DEFAULTCAPACITY_EMPTY_ELEMENTDATA" "[Ljava/lang/Object;" (.ref oa)) {G : Ghost} {j jr : Nat} {u w y z : Value} {mn le to_ wd ht : Int32} (hR : G[jr]? = some (.inl 3, [.int le, .int to_, .int (le + wd), .int (to_ + ht)])) (hin : own_in le to_ wd ht) (hO : G[j]? = some (.inl 4, [u, w, y, .null, z])) :
    Meth sg l Z n0 [oa] (⟨"com/example/guest_panes/guestpanes/FreeWindowPairWithPinLaw", "check", "(Lcom/example/guest_panes/guestpanes/FreeWindow;Lcom/example/guest_panes/guestpanes/FreeWindow;ZLcom/example/guest_panes/guestpanes/Rect;IIII)Z"⟩ : MethodName) method_3_code 10 (some .boolean) ({ frames := 6, cells := 1, slots := 4, locals := 88 } : Room) [.ref j, .null, .int mn, .ref jr, .int le, .int to_, .int wd, .int ht] G (fun v G' => v = some (.int 1) ∧ G' = G) := by
  refine Meth.of (a0 := a0) (tab := tables_1) (Ls := [.val (.ref j), .val (.null), .val (.int mn), .val (.ref jr), .val (.int le), .val (.int to_), .val (.int wd), .val (.int ht), .unset, .unset]) pn_method_3_code hw sgOk (fun ad m => ent rfl ad m) ?_
  intro J W
  have hj := lt_some hO
  have hjr := lt_some hR
  refine W.aloadN (pc' := 1) d_method_3_code_0 rfl rfl ?_
  refine W.callVirtual (pc' := 4) d_method_3_code_1 (tw 170 rfl) (tw 171 rfl) (tw 173 rfl) (tw 172 rfl) (tw 75 rfl) (tw 174 rfl) hO rfl (m_FreeWindow_partner_ hw hst hO rfl rfl) (lenOf pd6 rfl) rfl (by first | rfl | (simp [scS, sc, *]; done) | (simp [scS, sc]; omega)) rfl rfl rfl (by decide) (by decide) (fun v G' hQ => ?_)
  obtain ⟨rfl, hG_⟩ := hQ
  rw [hG_]
  clear hG_
  try simp only [List.length_cons, List.length_nil, Nat.reduceAdd, Nat.zero_add, List.cons_append, List.nil_append, List.set_cons_zero, List.set_cons_succ, Option.toList]
  refine W.aloadN (pc' := 5) d_method_3_code_4 rfl rfl ?_
  refine W.acmp_eq_t (pc' := 10) d_method_3_code_5 rfl rfl (rfl) ?_
  refine W.aloadN (pc' := 11) d_method_3_code_10 rfl rfl ?_
  refine W.ifnonnull_f (pc' := 14) d_method_3_code_11 ?_
  refine W.iconst (pc' := 15) (1) d_method_3_code_14 rfl ?_
  refine W.zreturn d_method_3_code_15 (by decide) (by decide) (by decide) ?_
  exact ⟨rfl, rfl⟩
set_option maxRecDepth 65536 in
set_option maxHeartbeats 4000000 in
theorem m_check_1 {l : Launch} {Z : State} {a0 : Array Value} {n0 : Nat} {oa : Addr} (hw : ∀ d ∈ tables_1, d.before a0 Z = true) (hst : Sta Z Z.heap "java/util/ArrayList" "DEFAULTCAPACITY_EMPTY_ELEMENTDATA" "[Ljava/lang/Object;" (.ref oa)) {G : Ghost} {j jp jr : Nat} {u w y : Value} {le to_ wd ht : Int32} (hR : G[jr]? = some (.inl 3, [.int le, .int to_, .int (le + wd), .int (to_ + ht)])) (hin : own_in le to_ wd ht) (hO : G[j]? = some (.inl 4, [u, w, y, .ref jp, .int 1])) (hjp : jp < G.length) :
    Meth sg l Z n0 [oa] (⟨"com/example/guest_panes/guestpanes/FreeWindowPairWithPinLaw", "check", "(Lcom/example/guest_panes/guestpanes/FreeWindow;Lcom/example/guest_panes/guestpanes/FreeWindow;ZLcom/example/guest_panes/guestpanes/Rect;IIII)Z"⟩ : MethodName) method_3_code 10 (some .boolean) ({ frames := 6, cells := 1, slots := 4, locals := 88 } : Room) [.ref j, .ref jp, .int 1, .ref jr, .int le, .int to_, .int wd, .int ht] G (fun v G' => v = some (.int 1) ∧ G' = G ++ [(.inl 3, [.int (le + (le + wd - le)), .int (to_ + 0), .int (le + wd + (le + wd - le)), .int (to_ + ht + 0)])]) := by
  refine Meth.of (a0 := a0) (tab := tables_1) (Ls := [.val (.ref j), .val (.ref jp), .val (.int 1), .val (.ref jr), .val (.int le), .val (.int to_), .val (.int wd), .val (.int ht), .unset, .unset]) pn_method_3_code hw sgOk (fun ad m => ent rfl ad m) ?_
  intro J W
  have hj := lt_some hO
  have hjr := lt_some hR
  refine W.aloadN (pc' := 1) d_method_3_code_0 rfl rfl ?_
  refine W.callVirtual (pc' := 4) d_method_3_code_1 (tw 170 rfl) (tw 171 rfl) (tw 173 rfl) (tw 172 rfl) (tw 75 rfl) (tw 174 rfl) hO rfl (m_FreeWindow_partner_ hw hst hO rfl (by simp [sc]; omega)) (lenOf pd6 rfl) rfl (by first | rfl | (simp [scS, sc, *]; done) | (simp [scS, sc]; omega)) rfl rfl rfl (by decide) (by decide) (fun v G' hQ => ?_)
  obtain ⟨rfl, hG_⟩ := hQ
  rw [hG_]
  clear hG_
  try simp only [List.length_cons, List.length_nil, Nat.reduceAdd, Nat.zero_add, List.cons_append, List.nil_append, List.set_cons_zero, List.set_cons_succ, Option.toList]
  refine W.aloadN (pc' := 5) d_method_3_code_4 rfl rfl ?_
  refine W.acmp_eq_t (pc' := 10) d_method_3_code_5 rfl rfl (rfl) ?_
  refine W.aloadN (pc' := 11) d_method_3_code_10 rfl rfl ?_
  refine W.ifnonnull_t (pc' := 16) d_method_3_code_11 ?_
  refine W.aloadN (pc' := 17) d_method_3_code_16 rfl rfl ?_
  refine W.aloadN (pc' := 18) d_method_3_code_17 rfl rfl ?_
  refine W.callVirtual (pc' := 21) d_method_3_code_18 (tw 175 rfl) (tw 176 rfl) (tw 178 rfl) (tw 177 rfl) (tw 75 rfl) (tw 179 rfl) hO rfl (m_FreeWindow_partnerBounds_A_1 hw hst hO hR (own_of1 hin)) (lenOf pd5 rfl) rfl (by first | rfl | (simp [scS, sc, *]; done) | (simp [scS, sc]; omega)) rfl rfl rfl (by decide) (by decide) (fun v G' hQ => ?_)
  obtain ⟨rfl, rfl⟩ := hQ
  try simp only [List.length_cons, List.length_nil, Nat.reduceAdd, Nat.zero_add, List.cons_append, List.nil_append, List.set_cons_zero, List.set_cons_succ, Option.toList]
  refine W.astore (pc' := 23) d_method_3_code_21 rfl rfl ?_
  try simp only [List.length_cons, List.length_nil, Nat.reduceAdd, Nat.zero_add, List.cons_append, List.nil_append, List.set_cons_zero, List.set_cons_succ, Option.toList]
  refine W.iloadN (pc' := 24) d_method_3_code_23 rfl ?_
  refine W.if_eq (pc' := 35) (pc2 := 27) d_method_3_code_24 (fun hz_ => absurd hz_ (by decide)) (fun _ => ?_)
  refine W.iload (pc' := 29) d_method_3_code_27 rfl ?_
  refine W.iload (pc' := 31) d_method_3_code_29 rfl ?_
  refine W.iadd (pc' := 32) d_method_3_code_31 ?_
  refine W.goto (pc' := 40) d_method_3_code_32 ?_
  refine W.istore (pc' := 42) d_method_3_code_40 rfl ?_
  try simp only [List.length_cons, List.length_nil, Nat.reduceAdd, Nat.zero_add, List.cons_append, List.nil_append, List.set_cons_zero, List.set_cons_succ, Option.toList]
  refine W.aload (pc' := 44) d_method_3_code_42 rfl rfl ?_
  refine W.callVirtual (pc' := 47) d_method_3_code_44 (tw 198 rfl) (tw 199 rfl) (tw 201 rfl) (tw 200 rfl) (tw 54 rfl) (tw 202 rfl) (get_last G _) rfl (m_Rect_left_ hw hst (get_last G _)) (lenOf pd3 rfl) rfl (by first | rfl | (simp [scS, sc, *]; done) | (simp [scS, sc]; omega)) rfl rfl rfl (by decide) (by decide) (fun v G' hQ => ?_)
  obtain ⟨rfl, rfl⟩ := hQ
  try simp only [List.length_cons, List.length_nil, Nat.reduceAdd, Nat.zero_add, List.cons_append, List.nil_append, List.set_cons_zero, List.set_cons_succ, Option.toList]
  refine W.iload (pc' := 49) d_method_3_code_47 rfl ?_
  refine W.icmp_ne (pc' := 92) (pc2 := 52) d_method_3_code_49 (fun _ => ?_) (fun hz_ => absurd (by rw [own_w]) hz_)
  refine W.aload (pc' := 54) d_method_3_code_52 rfl rfl ?_
  refine W.callVirtual (pc' := 57) d_method_3_code_54 (tw 203 rfl) (tw 204 rfl) (tw 206 rfl) (tw 205 rfl) (tw 54 rfl) (tw 207 rfl) (get_last G _) rfl (m_Rect_top_ hw hst (get_last G _)) (lenOf pd3 rfl) rfl (by first | rfl | (simp [scS, sc, *]; done) | (simp [scS, sc]; omega)) rfl rfl rfl (by decide) (by decide) (fun v G' hQ => ?_)
  obtain ⟨rfl, rfl⟩ := hQ
  try simp only [List.length_cons, List.length_nil, Nat.reduceAdd, Nat.zero_add, List.cons_append, List.nil_append, List.set_cons_zero, List.set_cons_succ, Option.toList]
  refine W.iload (pc' := 59) d_method_3_code_57 rfl ?_
  refine W.icmp_ne (pc' := 92) (pc2 := 62) d_method_3_code_59 (fun _ => ?_) (fun hz_ => absurd (own_add0 _) hz_)
  refine W.aload (pc' := 64) d_method_3_code_62 rfl rfl ?_
  refine W.callVirtual (pc' := 67) d_method_3_code_64 (tw 208 rfl) (tw 209 rfl) (tw 211 rfl) (tw 210 rfl) (tw 54 rfl) (tw 212 rfl) (get_last G _) rfl (m_Rect_right_ hw hst (get_last G _)) (lenOf pd3 rfl) rfl (by first | rfl | (simp [scS, sc, *]; done) | (simp [scS, sc]; omega)) rfl rfl rfl (by decide) (by decide) (fun v G' hQ => ?_)
  obtain ⟨rfl, rfl⟩ := hQ
  try simp only [List.length_cons, List.length_nil, Nat.reduceAdd, Nat.zero_add, List.cons_append, List.nil_append, List.set_cons_zero, List.set_cons_succ, Option.toList]
  refine W.iload (pc' := 69) d_method_3_code_67 rfl ?_
  refine W.iload (pc' := 71) d_method_3_code_69 rfl ?_
  refine W.iadd (pc' := 72) d_method_3_code_71 ?_
  refine W.icmp_ne (pc' := 92) (pc2 := 75) d_method_3_code_72 (fun _ => ?_) (fun hz_ => absurd (by rw [own_w]) hz_)
  refine W.aload (pc' := 77) d_method_3_code_75 rfl rfl ?_
  refine W.callVirtual (pc' := 80) d_method_3_code_77 (tw 213 rfl) (tw 214 rfl) (tw 216 rfl) (tw 215 rfl) (tw 54 rfl) (tw 217 rfl) (get_last G _) rfl (m_Rect_bottom_ hw hst (get_last G _)) (lenOf pd3 rfl) rfl (by first | rfl | (simp [scS, sc, *]; done) | (simp [scS, sc]; omega)) rfl rfl rfl (by decide) (by decide) (fun v G' hQ => ?_)
  obtain ⟨rfl, rfl⟩ := hQ
  try simp only [List.length_cons, List.length_nil, Nat.reduceAdd, Nat.zero_add, List.cons_append, List.nil_append, List.set_cons_zero, List.set_cons_succ, Option.toList]
  refine W.iload (pc' := 82) d_method_3_code_80 rfl ?_
  refine W.iload (pc' := 84) d_method_3_code_82 rfl ?_
  refine W.iadd (pc' := 85) d_method_3_code_84 ?_
  refine W.icmp_ne (pc' := 92) (pc2 := 88) d_method_3_code_85 (fun _ => ?_) (fun hz_ => absurd (own_add0 _) hz_)
  refine W.iconst (pc' := 89) (1) d_method_3_code_88 rfl ?_
  refine W.goto (pc' := 93) d_method_3_code_89 ?_
  refine W.zreturn d_method_3_code_93 (by decide) (by decide) (by decide) ?_
  exact ⟨rfl, rfl⟩
set_option maxRecDepth 65536 in
set_option maxHeartbeats 4000000 in
theorem m_check_0 {l : Launch} {Z : State} {a0 : Array Value} {n0 : Nat} {oa : Addr} (hw : ∀ d ∈ tables_1, d.before a0 Z = true) (hst : Sta Z Z.heap "java/util/ArrayList" "DEFAULTCAPACITY_EMPTY_ELEMENTDATA" "[Ljava/lang/Object;" (.ref oa)) {G : Ghost} {j jp jr : Nat} {u w y : Value} {le to_ wd ht : Int32} (hR : G[jr]? = some (.inl 3, [.int le, .int to_, .int (le + wd), .int (to_ + ht)])) (hin : own_in le to_ wd ht) (hO : G[j]? = some (.inl 4, [u, w, y, .ref jp, .int 0])) (hjp : jp < G.length) :
    Meth sg l Z n0 [oa] (⟨"com/example/guest_panes/guestpanes/FreeWindowPairWithPinLaw", "check", "(Lcom/example/guest_panes/guestpanes/FreeWindow;Lcom/example/guest_panes/guestpanes/FreeWindow;ZLcom/example/guest_panes/guestpanes/Rect;IIII)Z"⟩ : MethodName) method_3_code 10 (some .boolean) ({ frames := 6, cells := 1, slots := 4, locals := 88 } : Room) [.ref j, .ref jp, .int 0, .ref jr, .int le, .int to_, .int wd, .int ht] G (fun v G' => v = some (.int 1) ∧ G' = G ++ [(.inl 3, [.int (le + (-(le + wd - le))), .int (to_ + 0), .int (le + wd + (-(le + wd - le))), .int (to_ + ht + 0)])]) := by
  refine Meth.of (a0 := a0) (tab := tables_1) (Ls := [.val (.ref j), .val (.ref jp), .val (.int 0), .val (.ref jr), .val (.int le), .val (.int to_), .val (.int wd), .val (.int ht), .unset, .unset]) pn_method_3_code hw sgOk (fun ad m => ent rfl ad m) ?_
  intro J W
  have hj := lt_some hO
  have hjr := lt_some hR
  refine W.aloadN (pc' := 1) d_method_3_code_0 rfl rfl ?_
  refine W.callVirtual (pc' := 4) d_method_3_code_1 (tw 170 rfl) (tw 171 rfl) (tw 173 rfl) (tw 172 rfl) (tw 75 rfl) (tw 174 rfl) hO rfl (m_FreeWindow_partner_ hw hst hO rfl (by simp [sc]; omega)) (lenOf pd6 rfl) rfl (by first | rfl | (simp [scS, sc, *]; done) | (simp [scS, sc]; omega)) rfl rfl rfl (by decide) (by decide) (fun v G' hQ => ?_)
  obtain ⟨rfl, hG_⟩ := hQ
  rw [hG_]
  clear hG_
  try simp only [List.length_cons, List.length_nil, Nat.reduceAdd, Nat.zero_add, List.cons_append, List.nil_append, List.set_cons_zero, List.set_cons_succ, Option.toList]
  refine W.aloadN (pc' := 5) d_method_3_code_4 rfl rfl ?_
  refine W.acmp_eq_t (pc' := 10) d_method_3_code_5 rfl rfl (rfl) ?_
  refine W.aloadN (pc' := 11) d_method_3_code_10 rfl rfl ?_
  refine W.ifnonnull_t (pc' := 16) d_method_3_code_11 ?_
  refine W.aloadN (pc' := 17) d_method_3_code_16 rfl rfl ?_
  refine W.aloadN (pc' := 18) d_method_3_code_17 rfl rfl ?_
  refine W.callVirtual (pc' := 21) d_method_3_code_18 (tw 175 rfl) (tw 176 rfl) (tw 178 rfl) (tw 177 rfl) (tw 75 rfl) (tw 179 rfl) hO rfl (m_FreeWindow_partnerBounds_A_0 hw hst hO hR (own_of0 hin)) (lenOf pd5 rfl) rfl (by first | rfl | (simp [scS, sc, *]; done) | (simp [scS, sc]; omega)) rfl rfl rfl (by decide) (by decide) (fun v G' hQ => ?_)
  obtain ⟨rfl, rfl⟩ := hQ
  try simp only [List.length_cons, List.length_nil, Nat.reduceAdd, Nat.zero_add, List.cons_append, List.nil_append, List.set_cons_zero, List.set_cons_succ, Option.toList]
  refine W.astore (pc' := 23) d_method_3_code_21 rfl rfl ?_
  try simp only [List.length_cons, List.length_nil, Nat.reduceAdd, Nat.zero_add, List.cons_append, List.nil_append, List.set_cons_zero, List.set_cons_succ, Option.toList]
  refine W.iloadN (pc' := 24) d_method_3_code_23 rfl ?_
  refine W.if_eq (pc' := 35) (pc2 := 27) d_method_3_code_24 (fun _ => ?_) (fun hz_ => absurd (rfl) hz_)
  refine W.iload (pc' := 37) d_method_3_code_35 rfl ?_
  refine W.iload (pc' := 39) d_method_3_code_37 rfl ?_
  refine W.isub (pc' := 40) d_method_3_code_39 ?_
  refine W.istore (pc' := 42) d_method_3_code_40 rfl ?_
  try simp only [List.length_cons, List.length_nil, Nat.reduceAdd, Nat.zero_add, List.cons_append, List.nil_append, List.set_cons_zero, List.set_cons_succ, Option.toList]
  refine W.aload (pc' := 44) d_method_3_code_42 rfl rfl ?_
  refine W.callVirtual (pc' := 47) d_method_3_code_44 (tw 198 rfl) (tw 199 rfl) (tw 201 rfl) (tw 200 rfl) (tw 54 rfl) (tw 202 rfl) (get_last G _) rfl (m_Rect_left_ hw hst (get_last G _)) (lenOf pd3 rfl) rfl (by first | rfl | (simp [scS, sc, *]; done) | (simp [scS, sc]; omega)) rfl rfl rfl (by decide) (by decide) (fun v G' hQ => ?_)
  obtain ⟨rfl, rfl⟩ := hQ
  try simp only [List.length_cons, List.length_nil, Nat.reduceAdd, Nat.zero_add, List.cons_append, List.nil_append, List.set_cons_zero, List.set_cons_succ, Option.toList]
  refine W.iload (pc' := 49) d_method_3_code_47 rfl ?_
  refine W.icmp_ne (pc' := 92) (pc2 := 52) d_method_3_code_49 (fun _ => ?_) (fun hz_ => absurd (by rw [own_w, Int32.sub_eq_add_neg]) hz_)
  refine W.aload (pc' := 54) d_method_3_code_52 rfl rfl ?_
  refine W.callVirtual (pc' := 57) d_method_3_code_54 (tw 203 rfl) (tw 204 rfl) (tw 206 rfl) (tw 205 rfl) (tw 54 rfl) (tw 207 rfl) (get_last G _) rfl (m_Rect_top_ hw hst (get_last G _)) (lenOf pd3 rfl) rfl (by first | rfl | (simp [scS, sc, *]; done) | (simp [scS, sc]; omega)) rfl rfl rfl (by decide) (by decide) (fun v G' hQ => ?_)
  obtain ⟨rfl, rfl⟩ := hQ
  try simp only [List.length_cons, List.length_nil, Nat.reduceAdd, Nat.zero_add, List.cons_append, List.nil_append, List.set_cons_zero, List.set_cons_succ, Option.toList]
  refine W.iload (pc' := 59) d_method_3_code_57 rfl ?_
  refine W.icmp_ne (pc' := 92) (pc2 := 62) d_method_3_code_59 (fun _ => ?_) (fun hz_ => absurd (own_add0 _) hz_)
  refine W.aload (pc' := 64) d_method_3_code_62 rfl rfl ?_
  refine W.callVirtual (pc' := 67) d_method_3_code_64 (tw 208 rfl) (tw 209 rfl) (tw 211 rfl) (tw 210 rfl) (tw 54 rfl) (tw 212 rfl) (get_last G _) rfl (m_Rect_right_ hw hst (get_last G _)) (lenOf pd3 rfl) rfl (by first | rfl | (simp [scS, sc, *]; done) | (simp [scS, sc]; omega)) rfl rfl rfl (by decide) (by decide) (fun v G' hQ => ?_)
  obtain ⟨rfl, rfl⟩ := hQ
  try simp only [List.length_cons, List.length_nil, Nat.reduceAdd, Nat.zero_add, List.cons_append, List.nil_append, List.set_cons_zero, List.set_cons_succ, Option.toList]
  refine W.iload (pc' := 69) d_method_3_code_67 rfl ?_
  refine W.iload (pc' := 71) d_method_3_code_69 rfl ?_
  refine W.iadd (pc' := 72) d_method_3_code_71 ?_
  refine W.icmp_ne (pc' := 92) (pc2 := 75) d_method_3_code_72 (fun _ => ?_) (fun hz_ => absurd (by rw [own_w, Int32.sub_eq_add_neg, Int32.add_assoc, Int32.add_assoc, Int32.add_comm wd]) hz_)
  refine W.aload (pc' := 77) d_method_3_code_75 rfl rfl ?_
  refine W.callVirtual (pc' := 80) d_method_3_code_77 (tw 213 rfl) (tw 214 rfl) (tw 216 rfl) (tw 215 rfl) (tw 54 rfl) (tw 217 rfl) (get_last G _) rfl (m_Rect_bottom_ hw hst (get_last G _)) (lenOf pd3 rfl) rfl (by first | rfl | (simp [scS, sc, *]; done) | (simp [scS, sc]; omega)) rfl rfl rfl (by decide) (by decide) (fun v G' hQ => ?_)
  obtain ⟨rfl, rfl⟩ := hQ
  try simp only [List.length_cons, List.length_nil, Nat.reduceAdd, Nat.zero_add, List.cons_append, List.nil_append, List.set_cons_zero, List.set_cons_succ, Option.toList]
  refine W.iload (pc' := 82) d_method_3_code_80 rfl ?_
  refine W.iload (pc' := 84) d_method_3_code_82 rfl ?_
  refine W.iadd (pc' := 85) d_method_3_code_84 ?_
  refine W.icmp_ne (pc' := 92) (pc2 := 88) d_method_3_code_85 (fun _ => ?_) (fun hz_ => absurd (own_add0 _) hz_)
  refine W.iconst (pc' := 89) (1) d_method_3_code_88 rfl ?_
  refine W.goto (pc' := 93) d_method_3_code_89 ?_
  refine W.zreturn d_method_3_code_93 (by decide) (by decide) (by decide) ?_
  exact ⟨rfl, rfl⟩
set_option maxRecDepth 65536 in
set_option maxHeartbeats 4000000 in
theorem m_Display__init__AIII {l : Launch} {Z : State} {a0 : Array Value} {n0 : Nat} {oa : Addr} (hw : ∀ d ∈ tables_1, d.before a0 Z = true) (hst : Sta Z Z.heap "java/util/ArrayList" "DEFAULTCAPACITY_EMPTY_ELEMENTDATA" "[Ljava/lang/Object;" (.ref oa))  :
    Meth sg l Z n0 [oa] (⟨"com/example/guest_panes/guestpanes/Display", "<init>", "(Ljava/lang/String;III)V"⟩ : MethodName) prog_6_method_1_code 5 none ({ frames := 4, cells := 1, slots := 3, locals := 50 } : Room) [.ref 1, .ref 2, .int 1, .int 1, .int 0] [(.inr (.object "java/lang/Object"), []), (.inl 0, [.null, .null, .int 0, .int 0, .int 0]), (.inl 99, [])] (fun v G' => v = none ∧ G' = [(.inr (.object "java/lang/Object"), []), (.inl 0, [.ref 3, .ref 2, .int 1, .int 1, .int 0]), (.inl 99, []), (.inl 2, [.int 0, .ref 0, .int 0])]) := by
  refine Meth.of (a0 := a0) (tab := tables_1) (Ls := [.val (.ref 1), .val (.ref 2), .val (.int 1), .val (.int 1), .val (.int 0)]) pn_prog_6_method_1_code hw sgOk (fun ad m => ent rfl ad m) ?_
  intro J W
  refine W.aloadN (pc' := 1) d_prog_6_method_1_code_0 rfl rfl ?_
  refine W.initObject (pc' := 4) d_prog_6_method_1_code_1 (tw 15 rfl) (tw 16 rfl) (tw 17 rfl) rfl rfl rfl ?_
  refine W.aloadN (pc' := 5) d_prog_6_method_1_code_4 rfl rfl ?_
  refine W.new (pc' := 8) (vs := [.int 0, .null, .int 0]) 2 d_prog_6_method_1_code_5 rfl (tw 18 rfl) (tw 20 rfl) rfl (by first | rfl | (simp [scS, sc, *]; done) | (simp [scS, sc]; omega)) (by decide) (by decide) ?_
  try simp only [List.length_cons, List.length_nil, Nat.reduceAdd, Nat.zero_add, List.cons_append, List.nil_append, List.set_cons_zero, List.set_cons_succ, Option.toList]
  refine W.dup (pc' := 9) d_prog_6_method_1_code_8 rfl ?_
  refine W.callInit (pc' := 12) d_prog_6_method_1_code_9 (tw 21 rfl) (tw 22 rfl) (tw 20 rfl) (tw 23 rfl) (m_ArrayList__init__ (u := .int 0) (w := .null) (z := .int 0) hw hst rfl rfl) (lenOf pd0 rfl) rfl (by first | rfl | (simp [scS, sc, *]; done) | (simp [scS, sc]; omega)) rfl rfl rfl (by decide) (by decide) (fun v G' hQ => ?_)
  obtain ⟨rfl, rfl⟩ := hQ
  try simp only [List.length_cons, List.length_nil, Nat.reduceAdd, Nat.zero_add, List.cons_append, List.nil_append, List.set_cons_zero, List.set_cons_succ, Option.toList]
  refine W.putfield (pc' := 15) (host := "") 0 d_prog_6_method_1_code_12 (Or.inl (tw 42 rfl)) (Or.inl rfl) rfl rfl rfl rfl (Or.inr ⟨tw 43 rfl, rfl, rfl⟩) (fun _ => rfl) (fun _ => rfl) rfl ?_
  try simp only [List.length_cons, List.length_nil, Nat.reduceAdd, Nat.zero_add, List.cons_append, List.nil_append, List.set_cons_zero, List.set_cons_succ, Option.toList]
  refine W.aloadN (pc' := 16) d_prog_6_method_1_code_15 rfl rfl ?_
  refine W.aloadN (pc' := 17) d_prog_6_method_1_code_16 rfl rfl ?_
  refine W.putfield (pc' := 20) (host := "") 1 d_prog_6_method_1_code_17 (Or.inl (tw 44 rfl)) (Or.inl rfl) rfl rfl rfl rfl (Or.inr ⟨tw 45 rfl, rfl, rfl⟩) (fun _ => rfl) (fun _ => rfl) rfl ?_
  try simp only [List.length_cons, List.length_nil, Nat.reduceAdd, Nat.zero_add, List.cons_append, List.nil_append, List.set_cons_zero, List.set_cons_succ, Option.toList]
  refine W.aloadN (pc' := 21) d_prog_6_method_1_code_20 rfl rfl ?_
  refine W.iloadN (pc' := 22) d_prog_6_method_1_code_21 rfl ?_
  refine W.putfield (pc' := 25) (host := "") 2 d_prog_6_method_1_code_22 (Or.inl (tw 46 rfl)) (Or.inl rfl) rfl rfl rfl rfl (Or.inr ⟨tw 47 rfl, rfl, rfl⟩) (fun _ => rfl) (fun _ => rfl) rfl ?_
  try simp only [List.length_cons, List.length_nil, Nat.reduceAdd, Nat.zero_add, List.cons_append, List.nil_append, List.set_cons_zero, List.set_cons_succ, Option.toList]
  refine W.aloadN (pc' := 26) d_prog_6_method_1_code_25 rfl rfl ?_
  refine W.iloadN (pc' := 27) d_prog_6_method_1_code_26 rfl ?_
  refine W.putfield (pc' := 30) (host := "") 3 d_prog_6_method_1_code_27 (Or.inl (tw 48 rfl)) (Or.inl rfl) rfl rfl rfl rfl (Or.inr ⟨tw 49 rfl, rfl, rfl⟩) (fun _ => rfl) (fun _ => rfl) rfl ?_
  try simp only [List.length_cons, List.length_nil, Nat.reduceAdd, Nat.zero_add, List.cons_append, List.nil_append, List.set_cons_zero, List.set_cons_succ, Option.toList]
  refine W.aloadN (pc' := 31) d_prog_6_method_1_code_30 rfl rfl ?_
  refine W.iload (pc' := 33) d_prog_6_method_1_code_31 rfl ?_
  refine W.putfield (pc' := 36) (host := "") 4 d_prog_6_method_1_code_33 (Or.inl (tw 50 rfl)) (Or.inl rfl) rfl rfl rfl rfl (Or.inr ⟨tw 51 rfl, rfl, rfl⟩) (fun _ => rfl) (fun _ => rfl) rfl ?_
  try simp only [List.length_cons, List.length_nil, Nat.reduceAdd, Nat.zero_add, List.cons_append, List.nil_append, List.set_cons_zero, List.set_cons_succ, Option.toList]
  refine W.return_ d_prog_6_method_1_code_36 (by decide) (by decide) ?_
  exact ⟨rfl, rfl⟩
set_option maxRecDepth 65536 in
set_option maxHeartbeats 4000000 in
theorem m_PaneOwner__init__A_v0 {l : Launch} {Z : State} {a0 : Array Value} {n0 : Nat} {oa : Addr} (hw : ∀ d ∈ tables_1, d.before a0 Z = true) (hst : Sta Z Z.heap "java/util/ArrayList" "DEFAULTCAPACITY_EMPTY_ELEMENTDATA" "[Ljava/lang/Object;" (.ref oa)) {rq : Obj} :
    Meth sg l Z n0 [oa] (⟨"com/example/guest_panes/guestpanes/PaneOwner", "<init>", "(Lcom/example/guest_panes/guestpanes/Display;)V"⟩ : MethodName) prog_18_method_1_code 2 none ({ frames := 4, cells := 1, slots := 3, locals := 52 } : Room) [.ref 5, .ref 1] [(.inr (.object "java/lang/Object"), []), (.inl 0, [.ref 3, .ref 2, .int 1, .int 1, .int 0]), (.inl 99, []), (.inl 2, [.int 0, .ref 0, .int 0]), rq, (.inl 4, [.null, .null, .null, .null, .int 0]), (.inl 99, [])] (fun v G' => v = none ∧ G' = [(.inr (.object "java/lang/Object"), []), (.inl 0, [.ref 3, .ref 2, .int 1, .int 1, .int 0]), (.inl 99, []), (.inl 2, [.int 0, .ref 0, .int 0]), rq, (.inl 4, [.ref 7, .ref 1, .null, .null, .int 0]), (.inl 99, []), (.inl 2, [.int 0, .ref 0, .int 0])]) := by
  refine Meth.of (a0 := a0) (tab := tables_1) (Ls := [.val (.ref 5), .val (.ref 1)]) pn_prog_18_method_1_code hw sgOk (fun ad m => ent rfl ad m) ?_
  intro J W
  refine W.aloadN (pc' := 1) d_prog_18_method_1_code_0 rfl rfl ?_
  refine W.initObject (pc' := 4) d_prog_18_method_1_code_1 (tw 85 rfl) (tw 16 rfl) (tw 17 rfl) rfl rfl rfl ?_
  refine W.aloadN (pc' := 5) d_prog_18_method_1_code_4 rfl rfl ?_
  refine W.new (pc' := 8) (vs := [.int 0, .null, .int 0]) 2 d_prog_18_method_1_code_5 rfl (tw 86 rfl) (tw 20 rfl) rfl (by first | rfl | (simp [scS, sc, *]; done) | (simp [scS, sc]; omega)) (by decide) (by decide) ?_
  try simp only [List.length_cons, List.length_nil, Nat.reduceAdd, Nat.zero_add, List.cons_append, List.nil_append, List.set_cons_zero, List.set_cons_succ, Option.toList]
  refine W.dup (pc' := 9) d_prog_18_method_1_code_8 rfl ?_
  refine W.callInit (pc' := 12) d_prog_18_method_1_code_9 (tw 87 rfl) (tw 22 rfl) (tw 20 rfl) (tw 23 rfl) (m_ArrayList__init__ (u := .int 0) (w := .null) (z := .int 0) hw hst rfl rfl) (lenOf pd0 rfl) rfl (by first | rfl | (simp [scS, sc, *]; done) | (simp [scS, sc]; omega)) rfl rfl rfl (by decide) (by decide) (fun v G' hQ => ?_)
  obtain ⟨rfl, rfl⟩ := hQ
  try simp only [List.length_cons, List.length_nil, Nat.reduceAdd, Nat.zero_add, List.cons_append, List.nil_append, List.set_cons_zero, List.set_cons_succ, Option.toList]
  refine W.putfield (pc' := 15) (host := "") 0 d_prog_18_method_1_code_12 (Or.inl (tw 88 rfl)) (Or.inl rfl) rfl rfl rfl rfl (Or.inr ⟨tw 89 rfl, rfl, rfl⟩) (fun _ => rfl) (fun _ => rfl) rfl ?_
  try simp only [List.length_cons, List.length_nil, Nat.reduceAdd, Nat.zero_add, List.cons_append, List.nil_append, List.set_cons_zero, List.set_cons_succ, Option.toList]
  refine W.aloadN (pc' := 16) d_prog_18_method_1_code_15 rfl rfl ?_
  refine W.aloadN (pc' := 17) d_prog_18_method_1_code_16 rfl rfl ?_
  refine W.putfield (pc' := 20) (host := "") 1 d_prog_18_method_1_code_17 (Or.inl (tw 90 rfl)) (Or.inl rfl) rfl rfl rfl rfl (Or.inr ⟨tw 91 rfl, rfl, rfl⟩) (fun _ => rfl) (fun _ => rfl) rfl ?_
  try simp only [List.length_cons, List.length_nil, Nat.reduceAdd, Nat.zero_add, List.cons_append, List.nil_append, List.set_cons_zero, List.set_cons_succ, Option.toList]
  refine W.return_ d_prog_18_method_1_code_20 (by decide) (by decide) ?_
  exact ⟨rfl, rfl⟩
set_option maxRecDepth 65536 in
set_option maxHeartbeats 4000000 in
theorem m_Pane__init__AAAI_v0 {l : Launch} {Z : State} {a0 : Array Value} {n0 : Nat} {oa : Addr} (hw : ∀ d ∈ tables_1, d.before a0 Z = true) (hst : Sta Z Z.heap "java/util/ArrayList" "DEFAULTCAPACITY_EMPTY_ELEMENTDATA" "[Ljava/lang/Object;" (.ref oa)) {rq : Obj} :
    Meth sg l Z n0 [oa] (⟨"com/example/guest_panes/guestpanes/Pane", "<init>", "(Ljava/lang/String;Lcom/example/guest_panes/guestpanes/PaneOwner;Lcom/example/guest_panes/guestpanes/Rect;I)V"⟩ : MethodName) prog_17_method_1_code 5 none ({ frames := 1, cells := 0, slots := 0, locals := 12 } : Room) [.ref 8, .ref 6, .ref 5, .ref 4, .int 0] [(.inr (.object "java/lang/Object"), []), (.inl 0, [.ref 3, .ref 2, .int 1, .int 1, .int 0]), (.inl 99, []), (.inl 2, [.int 0, .ref 0, .int 0]), rq, (.inl 4, [.ref 7, .ref 1, .null, .null, .int 0]), (.inl 99, []), (.inl 2, [.int 0, .ref 0, .int 0]), (.inl 5, [.null, .null, .null, .int 0])] (fun v G' => v = none ∧ G' = [(.inr (.object "java/lang/Object"), []), (.inl 0, [.ref 3, .ref 2, .int 1, .int 1, .int 0]), (.inl 99, []), (.inl 2, [.int 0, .ref 0, .int 0]), rq, (.inl 4, [.ref 7, .ref 1, .null, .null, .int 0]), (.inl 99, []), (.inl 2, [.int 0, .ref 0, .int 0]), (.inl 5, [.ref 6, .ref 5, .ref 4, .int 0])]) := by
  refine Meth.of (a0 := a0) (tab := tables_1) (Ls := [.val (.ref 8), .val (.ref 6), .val (.ref 5), .val (.ref 4), .val (.int 0)]) pn_prog_17_method_1_code hw sgOk (fun ad m => ent rfl ad m) ?_
  intro J W
  refine W.aloadN (pc' := 1) d_prog_17_method_1_code_0 rfl rfl ?_
  refine W.initObject (pc' := 4) d_prog_17_method_1_code_1 (tw 103 rfl) (tw 16 rfl) (tw 17 rfl) rfl rfl rfl ?_
  refine W.aloadN (pc' := 5) d_prog_17_method_1_code_4 rfl rfl ?_
  refine W.aloadN (pc' := 6) d_prog_17_method_1_code_5 rfl rfl ?_
  refine W.putfield (pc' := 9) (host := "") 0 d_prog_17_method_1_code_6 (Or.inl (tw 104 rfl)) (Or.inl rfl) rfl rfl rfl rfl (Or.inr ⟨tw 105 rfl, rfl, rfl⟩) (fun _ => rfl) (fun _ => rfl) rfl ?_
  try simp only [List.length_cons, List.length_nil, Nat.reduceAdd, Nat.zero_add, List.cons_append, List.nil_append, List.set_cons_zero, List.set_cons_succ, Option.toList]
  refine W.aloadN (pc' := 10) d_prog_17_method_1_code_9 rfl rfl ?_
  refine W.aloadN (pc' := 11) d_prog_17_method_1_code_10 rfl rfl ?_
  refine W.putfield (pc' := 14) (host := "") 1 d_prog_17_method_1_code_11 (Or.inl (tw 106 rfl)) (Or.inl rfl) rfl rfl rfl rfl (Or.inr ⟨tw 107 rfl, rfl, rfl⟩) (fun _ => rfl) (fun _ => rfl) rfl ?_
  try simp only [List.length_cons, List.length_nil, Nat.reduceAdd, Nat.zero_add, List.cons_append, List.nil_append, List.set_cons_zero, List.set_cons_succ, Option.toList]
  refine W.aloadN (pc' := 15) d_prog_17_method_1_code_14 rfl rfl ?_
  refine W.aloadN (pc' := 16) d_prog_17_method_1_code_15 rfl rfl ?_
  refine W.putfield (pc' := 19) (host := "") 2 d_prog_17_method_1_code_16 (Or.inl (tw 108 rfl)) (Or.inl rfl) rfl rfl rfl rfl (Or.inl (tw 109 rfl)) (fun _ => rfl) (fun _ => rfl) rfl ?_
  try simp only [List.length_cons, List.length_nil, Nat.reduceAdd, Nat.zero_add, List.cons_append, List.nil_append, List.set_cons_zero, List.set_cons_succ, Option.toList]
  refine W.aloadN (pc' := 20) d_prog_17_method_1_code_19 rfl rfl ?_
  refine W.iload (pc' := 22) d_prog_17_method_1_code_20 rfl ?_
  refine W.putfield (pc' := 25) (host := "") 3 d_prog_17_method_1_code_22 (Or.inl (tw 110 rfl)) (Or.inl rfl) rfl rfl rfl rfl (Or.inr ⟨tw 111 rfl, rfl, rfl⟩) (fun _ => rfl) (fun _ => rfl) rfl ?_
  try simp only [List.length_cons, List.length_nil, Nat.reduceAdd, Nat.zero_add, List.cons_append, List.nil_append, List.set_cons_zero, List.set_cons_succ, Option.toList]
  refine W.return_ d_prog_17_method_1_code_25 (by decide) (by decide) ?_
  exact ⟨rfl, rfl⟩
set_option maxRecDepth 65536 in
set_option maxHeartbeats 4000000 in
theorem m_ArrayList_grow_I_v0 {l : Launch} {Z : State} {a0 : Array Value} {n0 : Nat} {oa : Addr} (hw : ∀ d ∈ tables_1, d.before a0 Z = true) (hst : Sta Z Z.heap "java/util/ArrayList" "DEFAULTCAPACITY_EMPTY_ELEMENTDATA" "[Ljava/lang/Object;" (.ref oa)) {rq : Obj} :
    Meth sg l Z n0 [oa] (⟨"java/util/ArrayList", "grow", "(I)[Ljava/lang/Object;"⟩ : MethodName) jdk_38_method_6_code 4 (some (.array (.object "java/lang/Object"))) ({ frames := 1, cells := 1, slots := 10, locals := 16 } : Room) [.ref 7, .int (0 + 1)] [(.inr (.object "java/lang/Object"), []), (.inl 0, [.ref 3, .ref 2, .int 1, .int 1, .int 0]), (.inl 99, []), (.inl 2, [.int 0, .ref 0, .int 0]), rq, (.inl 4, [.ref 7, .ref 1, .ref 8, .null, .int 0]), (.inl 99, []), (.inl 2, [.int (0 + 1), .ref 0, .int 0]), (.inl 5, [.ref 6, .ref 5, .ref 4, .int 0])] (fun v G' => v = some (.ref 9) ∧ G' = [(.inr (.object "java/lang/Object"), []), (.inl 0, [.ref 3, .ref 2, .int 1, .int 1, .int 0]), (.inl 99, []), (.inl 2, [.int 0, .ref 0, .int 0]), rq, (.inl 4, [.ref 7, .ref 1, .ref 8, .null, .int 0]), (.inl 99, []), (.inl 2, [.int (0 + 1), .ref 9, .int 0]), (.inl 5, [.ref 6, .ref 5, .ref 4, .int 0]), (.inr (.object "java/lang/Object"), [.null, .null, .null, .null, .null, .null, .null, .null, .null, .null])]) := by
  refine Meth.of (a0 := a0) (tab := tables_1) (Ls := [.val (.ref 7), .val (.int (0 + 1)), .unset, .unset]) pn_jdk_38_method_6_code hw sgOk (fun ad m => ent rfl ad m) ?_
  intro J W
  refine W.aloadN (pc' := 1) d_jdk_38_method_6_code_0 rfl rfl ?_
  refine W.getfield (pc' := 4) (host := "") 1 d_jdk_38_method_6_code_1 (Or.inl (tw 40 rfl)) (Or.inl rfl) rfl rfl rfl rfl ?_
  refine W.arraylength (pc' := 5) (0) d_jdk_38_method_6_code_4 rfl rfl ?_
  refine W.istoreN (pc' := 6) (i' := 2) d_jdk_38_method_6_code_5 rfl ?_
  try simp only [List.length_cons, List.length_nil, Nat.reduceAdd, Nat.zero_add, List.cons_append, List.nil_append, List.set_cons_zero, List.set_cons_succ, Option.toList]
  refine W.iloadN (pc' := 7) d_jdk_38_method_6_code_6 rfl ?_
  refine W.if_gt (pc' := 20) (pc2 := 10) d_jdk_38_method_6_code_7 (fun hz_ => absurd hz_ (by decide)) (fun _ => ?_)
  refine W.aloadN (pc' := 11) d_jdk_38_method_6_code_10 rfl rfl ?_
  refine W.getfield (pc' := 14) (host := "") 1 d_jdk_38_method_6_code_11 (Or.inl (tw 40 rfl)) (Or.inl rfl) rfl rfl rfl rfl ?_
  refine W.getstatic (j := 0) (pc' := 17) d_jdk_38_method_6_code_14 (tw 39 rfl) rfl hst ?_
  refine W.acmp_eq_t (pc' := 45) d_jdk_38_method_6_code_17 rfl rfl (rfl) ?_
  refine W.aloadN (pc' := 46) d_jdk_38_method_6_code_45 rfl rfl ?_
  refine W.bipush (pc' := 48) (10) d_jdk_38_method_6_code_46 rfl ?_
  refine W.iloadN (pc' := 49) d_jdk_38_method_6_code_48 rfl ?_
  refine W.callStatic (pc' := 52) d_jdk_38_method_6_code_49 (tw 148 rfl) (tw 149 rfl) (tw 150 rfl) (tw 151 rfl) (m_Math_max_II hw hst) (lenOf pd1 rfl) rfl (by first | rfl | (simp [scS, sc, *]; done) | (simp [scS, sc]; omega)) rfl rfl rfl (by decide) (by decide) (fun v G' hQ => ?_)
  obtain ⟨rfl, rfl⟩ := hQ
  try simp only [List.length_cons, List.length_nil, Nat.reduceAdd, Nat.zero_add, List.cons_append, List.nil_append, List.set_cons_zero, List.set_cons_succ, Option.toList]
  refine W.anewarray (pc' := 55) (vs := [.null, .null, .null, .null, .null, .null, .null, .null, .null, .null]) 10 d_jdk_38_method_6_code_52 (tw 152 rfl) (tw 153 rfl) (by decide) rfl (by decide) (by first | rfl | (simp [scS, sc, *]; done) | (simp [scS, sc]; omega)) (by decide) (by decide) ?_
  try simp only [List.length_cons, List.length_nil, Nat.reduceAdd, Nat.zero_add, List.cons_append, List.nil_append, List.set_cons_zero, List.set_cons_succ, Option.toList]
  refine W.dupX1 (pc' := 56) d_jdk_38_method_6_code_55 rfl rfl ?_
  refine W.putfield (pc' := 59) (host := "") 1 d_jdk_38_method_6_code_56 (Or.inl (tw 40 rfl)) (Or.inl rfl) rfl rfl rfl rfl (Or.inl (tw 41 rfl)) (fun _ => rfl) (fun _ => rfl) rfl ?_
  try simp only [List.length_cons, List.length_nil, Nat.reduceAdd, Nat.zero_add, List.cons_append, List.nil_append, List.set_cons_zero, List.set_cons_succ, Option.toList]
  refine W.areturn d_jdk_38_method_6_code_59 rfl rfl (by first | rfl | (simp [scS, sc, *]; done) | (simp [scS, sc]; omega)) (by decide) (by decide) ?_
  exact ⟨rfl, rfl⟩
set_option maxRecDepth 65536 in
set_option maxHeartbeats 4000000 in
theorem m_ArrayList_grow__v0 {l : Launch} {Z : State} {a0 : Array Value} {n0 : Nat} {oa : Addr} (hw : ∀ d ∈ tables_1, d.before a0 Z = true) (hst : Sta Z Z.heap "java/util/ArrayList" "DEFAULTCAPACITY_EMPTY_ELEMENTDATA" "[Ljava/lang/Object;" (.ref oa)) {rq : Obj} :
    Meth sg l Z n0 [oa] (⟨"java/util/ArrayList", "grow", "()[Ljava/lang/Object;"⟩ : MethodName) jdk_38_method_7_code 1 (some (.array (.object "java/lang/Object"))) ({ frames := 2, cells := 1, slots := 10, locals := 32 } : Room) [.ref 7] [(.inr (.object "java/lang/Object"), []), (.inl 0, [.ref 3, .ref 2, .int 1, .int 1, .int 0]), (.inl 99, []), (.inl 2, [.int 0, .ref 0, .int 0]), rq, (.inl 4, [.ref 7, .ref 1, .ref 8, .null, .int 0]), (.inl 99, []), (.inl 2, [.int (0 + 1), .ref 0, .int 0]), (.inl 5, [.ref 6, .ref 5, .ref 4, .int 0])] (fun v G' => v = some (.ref 9) ∧ G' = [(.inr (.object "java/lang/Object"), []), (.inl 0, [.ref 3, .ref 2, .int 1, .int 1, .int 0]), (.inl 99, []), (.inl 2, [.int 0, .ref 0, .int 0]), rq, (.inl 4, [.ref 7, .ref 1, .ref 8, .null, .int 0]), (.inl 99, []), (.inl 2, [.int (0 + 1), .ref 9, .int 0]), (.inl 5, [.ref 6, .ref 5, .ref 4, .int 0]), (.inr (.object "java/lang/Object"), [.null, .null, .null, .null, .null, .null, .null, .null, .null, .null])]) := by
  refine Meth.of (a0 := a0) (tab := tables_1) (Ls := [.val (.ref 7)]) pn_jdk_38_method_7_code hw sgOk (fun ad m => ent rfl ad m) ?_
  intro J W
  refine W.aloadN (pc' := 1) d_jdk_38_method_7_code_0 rfl rfl ?_
  refine W.aloadN (pc' := 2) d_jdk_38_method_7_code_1 rfl rfl ?_
  refine W.getfield (pc' := 5) (host := "") 2 d_jdk_38_method_7_code_2 (Or.inl (tw 131 rfl)) (Or.inl rfl) rfl rfl rfl rfl ?_
  refine W.iconst (pc' := 6) (1) d_jdk_38_method_7_code_5 rfl ?_
  refine W.iadd (pc' := 7) d_jdk_38_method_7_code_6 ?_
  refine W.callPrivate (pc' := 10) d_jdk_38_method_7_code_7 (tw 143 rfl) (tw 144 rfl) (tw 145 rfl) (tw 20 rfl) (tw 147 rfl) rfl rfl rfl (m_ArrayList_grow_I_v0 hw hst) (lenOf pd7 rfl) rfl (by first | rfl | (simp [scS, sc, *]; done) | (simp [scS, sc]; omega)) rfl rfl rfl (by decide) (by decide) (fun v G' hQ => ?_)
  obtain ⟨rfl, rfl⟩ := hQ
  try simp only [List.length_cons, List.length_nil, Nat.reduceAdd, Nat.zero_add, List.cons_append, List.nil_append, List.set_cons_zero, List.set_cons_succ, Option.toList]
  refine W.areturn d_jdk_38_method_7_code_10 rfl rfl (by first | rfl | (simp [scS, sc, *]; done) | (simp [scS, sc]; omega)) (by decide) (by decide) ?_
  exact ⟨rfl, rfl⟩
set_option maxRecDepth 65536 in
set_option maxHeartbeats 4000000 in
theorem m_ArrayList_add_AAI_v0 {l : Launch} {Z : State} {a0 : Array Value} {n0 : Nat} {oa : Addr} (hw : ∀ d ∈ tables_1, d.before a0 Z = true) (hst : Sta Z Z.heap "java/util/ArrayList" "DEFAULTCAPACITY_EMPTY_ELEMENTDATA" "[Ljava/lang/Object;" (.ref oa)) {rq : Obj} :
    Meth sg l Z n0 [oa] (⟨"java/util/ArrayList", "add", "(Ljava/lang/Object;[Ljava/lang/Object;I)V"⟩ : MethodName) jdk_38_method_24_code 4 none ({ frames := 3, cells := 1, slots := 10, locals := 46 } : Room) [.ref 7, .ref 8, .ref 0, .int 0] [(.inr (.object "java/lang/Object"), []), (.inl 0, [.ref 3, .ref 2, .int 1, .int 1, .int 0]), (.inl 99, []), (.inl 2, [.int 0, .ref 0, .int 0]), rq, (.inl 4, [.ref 7, .ref 1, .ref 8, .null, .int 0]), (.inl 99, []), (.inl 2, [.int (0 + 1), .ref 0, .int 0]), (.inl 5, [.ref 6, .ref 5, .ref 4, .int 0])] (fun v G' => v = none ∧ G' = [(.inr (.object "java/lang/Object"), []), (.inl 0, [.ref 3, .ref 2, .int 1, .int 1, .int 0]), (.inl 99, []), (.inl 2, [.int 0, .ref 0, .int 0]), rq, (.inl 4, [.ref 7, .ref 1, .ref 8, .null, .int 0]), (.inl 99, []), (.inl 2, [.int (0 + 1), .ref 9, .int (0 + 1)]), (.inl 5, [.ref 6, .ref 5, .ref 4, .int 0]), (.inr (.object "java/lang/Object"), [.ref 8, .null, .null, .null, .null, .null, .null, .null, .null, .null])]) := by
  refine Meth.of (a0 := a0) (tab := tables_1) (Ls := [.val (.ref 7), .val (.ref 8), .val (.ref 0), .val (.int 0)]) pn_jdk_38_method_24_code hw sgOk (fun ad m => ent rfl ad m) ?_
  intro J W
  refine W.iloadN (pc' := 1) d_jdk_38_method_24_code_0 rfl ?_
  refine W.aloadN (pc' := 2) d_jdk_38_method_24_code_1 rfl rfl ?_
  refine W.arraylength (pc' := 3) (0) d_jdk_38_method_24_code_2 rfl rfl ?_
  refine W.icmp_ne (pc' := 11) (pc2 := 6) d_jdk_38_method_24_code_3 (fun _ => ?_) (fun hz_ => absurd (rfl) hz_)
  refine W.aloadN (pc' := 7) d_jdk_38_method_24_code_6 rfl rfl ?_
  refine W.callPrivate (pc' := 10) d_jdk_38_method_24_code_7 (tw 138 rfl) (tw 139 rfl) (tw 140 rfl) (tw 20 rfl) (tw 142 rfl) rfl rfl rfl (m_ArrayList_grow__v0 hw hst) (lenOf pd8 rfl) rfl (by first | rfl | (simp [scS, sc, *]; done) | (simp [scS, sc]; omega)) rfl rfl rfl (by decide) (by decide) (fun v G' hQ => ?_)
  obtain ⟨rfl, rfl⟩ := hQ
  try simp only [List.length_cons, List.length_nil, Nat.reduceAdd, Nat.zero_add, List.cons_append, List.nil_append, List.set_cons_zero, List.set_cons_succ, Option.toList]
  refine W.astoreN (pc' := 11) (i' := 2) d_jdk_38_method_24_code_10 rfl rfl ?_
  try simp only [List.length_cons, List.length_nil, Nat.reduceAdd, Nat.zero_add, List.cons_append, List.nil_append, List.set_cons_zero, List.set_cons_succ, Option.toList]
  refine W.aloadN (pc' := 12) d_jdk_38_method_24_code_11 rfl rfl ?_
  refine W.iloadN (pc' := 13) d_jdk_38_method_24_code_12 rfl ?_
  refine W.aloadN (pc' := 14) d_jdk_38_method_24_code_13 rfl rfl ?_
  refine W.aastore (pc' := 15) 0 d_jdk_38_method_24_code_14 rfl rfl (by decide) (by decide) rfl rfl (tw 154 rfl) ?_
  try simp only [List.length_cons, List.length_nil, Nat.reduceAdd, Nat.zero_add, List.cons_append, List.nil_append, List.set_cons_zero, List.set_cons_succ, Option.toList]
  refine W.aloadN (pc' := 16) d_jdk_38_method_24_code_15 rfl rfl ?_
  refine W.iloadN (pc' := 17) d_jdk_38_method_24_code_16 rfl ?_
  refine W.iconst (pc' := 18) (1) d_jdk_38_method_24_code_17 rfl ?_
  refine W.iadd (pc' := 19) d_jdk_38_method_24_code_18 ?_
  refine W.putfield (pc' := 22) (host := "") 2 d_jdk_38_method_24_code_19 (Or.inl (tw 131 rfl)) (Or.inl rfl) rfl rfl rfl rfl (Or.inl (tw 132 rfl)) (fun _ => rfl) (fun _ => rfl) rfl ?_
  try simp only [List.length_cons, List.length_nil, Nat.reduceAdd, Nat.zero_add, List.cons_append, List.nil_append, List.set_cons_zero, List.set_cons_succ, Option.toList]
  refine W.return_ d_jdk_38_method_24_code_22 (by decide) (by decide) ?_
  exact ⟨rfl, rfl⟩
set_option maxRecDepth 65536 in
set_option maxHeartbeats 4000000 in
theorem m_ArrayList_add_A_v0 {l : Launch} {Z : State} {a0 : Array Value} {n0 : Nat} {oa : Addr} (hw : ∀ d ∈ tables_1, d.before a0 Z = true) (hst : Sta Z Z.heap "java/util/ArrayList" "DEFAULTCAPACITY_EMPTY_ELEMENTDATA" "[Ljava/lang/Object;" (.ref oa)) {rq : Obj} :
    Meth sg l Z n0 [oa] (⟨"java/util/ArrayList", "add", "(Ljava/lang/Object;)Z"⟩ : MethodName) jdk_38_method_25_code 2 (some .boolean) ({ frames := 4, cells := 1, slots := 10, locals := 62 } : Room) [.ref 7, .ref 8] [(.inr (.object "java/lang/Object"), []), (.inl 0, [.ref 3, .ref 2, .int 1, .int 1, .int 0]), (.inl 99, []), (.inl 2, [.int 0, .ref 0, .int 0]), rq, (.inl 4, [.ref 7, .ref 1, .ref 8, .null, .int 0]), (.inl 99, []), (.inl 2, [.int 0, .ref 0, .int 0]), (.inl 5, [.ref 6, .ref 5, .ref 4, .int 0])] (fun v G' => v = some (.int 1) ∧ G' = [(.inr (.object "java/lang/Object"), []), (.inl 0, [.ref 3, .ref 2, .int 1, .int 1, .int 0]), (.inl 99, []), (.inl 2, [.int 0, .ref 0, .int 0]), rq, (.inl 4, [.ref 7, .ref 1, .ref 8, .null, .int 0]), (.inl 99, []), (.inl 2, [.int (0 + 1), .ref 9, .int (0 + 1)]), (.inl 5, [.ref 6, .ref 5, .ref 4, .int 0]), (.inr (.object "java/lang/Object"), [.ref 8, .null, .null, .null, .null, .null, .null, .null, .null, .null])]) := by
  refine Meth.of (a0 := a0) (tab := tables_1) (Ls := [.val (.ref 7), .val (.ref 8)]) pn_jdk_38_method_25_code hw sgOk (fun ad m => ent rfl ad m) ?_
  intro J W
  refine W.aloadN (pc' := 1) d_jdk_38_method_25_code_0 rfl rfl ?_
  refine W.dup (pc' := 2) d_jdk_38_method_25_code_1 rfl ?_
  refine W.getfield (pc' := 5) (host := "") 0 d_jdk_38_method_25_code_2 (Or.inl (tw 129 rfl)) (Or.inr (tw 130 rfl)) rfl rfl rfl rfl ?_
  refine W.iconst (pc' := 6) (1) d_jdk_38_method_25_code_5 rfl ?_
  refine W.iadd (pc' := 7) d_jdk_38_method_25_code_6 ?_
  refine W.putfield (pc' := 10) (host := "") 0 d_jdk_38_method_25_code_7 (Or.inl (tw 129 rfl)) (Or.inr (tw 130 rfl)) rfl rfl rfl rfl (Or.inl (tw 38 rfl)) (fun _ => rfl) (fun _ => rfl) rfl ?_
  try simp only [List.length_cons, List.length_nil, Nat.reduceAdd, Nat.zero_add, List.cons_append, List.nil_append, List.set_cons_zero, List.set_cons_succ, Option.toList]
  refine W.aloadN (pc' := 11) d_jdk_38_method_25_code_10 rfl rfl ?_
  refine W.aloadN (pc' := 12) d_jdk_38_method_25_code_11 rfl rfl ?_
  refine W.aloadN (pc' := 13) d_jdk_38_method_25_code_12 rfl rfl ?_
  refine W.getfield (pc' := 16) (host := "") 1 d_jdk_38_method_25_code_13 (Or.inl (tw 40 rfl)) (Or.inl rfl) rfl rfl rfl rfl ?_
  refine W.aloadN (pc' := 17) d_jdk_38_method_25_code_16 rfl rfl ?_
  refine W.getfield (pc' := 20) (host := "") 2 d_jdk_38_method_25_code_17 (Or.inl (tw 131 rfl)) (Or.inl rfl) rfl rfl rfl rfl ?_
  refine W.callPrivate (pc' := 23) d_jdk_38_method_25_code_20 (tw 133 rfl) (tw 134 rfl) (tw 135 rfl) (tw 20 rfl) (tw 137 rfl) rfl rfl rfl (m_ArrayList_add_AAI_v0 hw hst) (lenOf pd9 rfl) rfl (by first | rfl | (simp [scS, sc, *]; done) | (simp [scS, sc]; omega)) rfl rfl rfl (by decide) (by decide) (fun v G' hQ => ?_)
  obtain ⟨rfl, rfl⟩ := hQ
  try simp only [List.length_cons, List.length_nil, Nat.reduceAdd, Nat.zero_add, List.cons_append, List.nil_append, List.set_cons_zero, List.set_cons_succ, Option.toList]
  refine W.iconst (pc' := 24) (1) d_jdk_38_method_25_code_23 rfl ?_
  refine W.zreturn d_jdk_38_method_25_code_24 (by decide) (by decide) (by decide) ?_
  exact ⟨rfl, rfl⟩
set_option maxRecDepth 65536 in
set_option maxHeartbeats 4000000 in
theorem m_FreeWindow__init__AAA_v0 {l : Launch} {Z : State} {a0 : Array Value} {n0 : Nat} {oa : Addr} (hw : ∀ d ∈ tables_1, d.before a0 Z = true) (hst : Sta Z Z.heap "java/util/ArrayList" "DEFAULTCAPACITY_EMPTY_ELEMENTDATA" "[Ljava/lang/Object;" (.ref oa)) {rq : Obj} :
    Meth sg l Z n0 [oa] (⟨"com/example/guest_panes/guestpanes/FreeWindow", "<init>", "(Ljava/lang/String;Lcom/example/guest_panes/guestpanes/Display;Lcom/example/guest_panes/guestpanes/Rect;)V"⟩ : MethodName) prog_10_method_1_code 4 none ({ frames := 5, cells := 3, slots := 21, locals := 80 } : Room) [.ref 5, .ref 6, .ref 1, .ref 4] [(.inr (.object "java/lang/Object"), []), (.inl 0, [.ref 3, .ref 2, .int 1, .int 1, .int 0]), (.inl 99, []), (.inl 2, [.int 0, .ref 0, .int 0]), rq, (.inl 4, [.null, .null, .null, .null, .int 0]), (.inl 99, [])] (fun v G' => v = none ∧ G' = [(.inr (.object "java/lang/Object"), []), (.inl 0, [.ref 3, .ref 2, .int 1, .int 1, .int 0]), (.inl 99, []), (.inl 2, [.int 0, .ref 0, .int 0]), rq, (.inl 4, [.ref 7, .ref 1, .ref 8, .null, .int 0]), (.inl 99, []), (.inl 2, [.int (0 + 1), .ref 9, .int (0 + 1)]), (.inl 5, [.ref 6, .ref 5, .ref 4, .int 0]), (.inr (.object "java/lang/Object"), [.ref 8, .null, .null, .null, .null, .null, .null, .null, .null, .null])]) := by
  refine Meth.of (a0 := a0) (tab := tables_1) (Ls := [.val (.ref 5), .val (.ref 6), .val (.ref 1), .val (.ref 4)]) pn_prog_10_method_1_code hw sgOk (fun ad m => ent rfl ad m) ?_
  intro J W
  refine W.aloadN (pc' := 1) d_prog_10_method_1_code_0 rfl rfl ?_
  refine W.aloadN (pc' := 2) d_prog_10_method_1_code_1 rfl rfl ?_
  refine W.callInit (pc' := 5) d_prog_10_method_1_code_2 (tw 80 rfl) (tw 81 rfl) (tw 83 rfl) (tw 84 rfl) (m_PaneOwner__init__A_v0 hw hst) (lenOf pd10 rfl) rfl (by first | rfl | (simp [scS, sc, *]; done) | (simp [scS, sc]; omega)) rfl rfl rfl (by decide) (by decide) (fun v G' hQ => ?_)
  obtain ⟨rfl, rfl⟩ := hQ
  try simp only [List.length_cons, List.length_nil, Nat.reduceAdd, Nat.zero_add, List.cons_append, List.nil_append, List.set_cons_zero, List.set_cons_succ, Option.toList]
  refine W.aloadN (pc' := 6) d_prog_10_method_1_code_5 rfl rfl ?_
  refine W.new (pc' := 9) (vs := [.null, .null, .null, .int 0]) 5 d_prog_10_method_1_code_6 rfl (tw 92 rfl) (tw 94 rfl) rfl (by first | rfl | (simp [scS, sc, *]; done) | (simp [scS, sc]; omega)) (by decide) (by decide) ?_
  try simp only [List.length_cons, List.length_nil, Nat.reduceAdd, Nat.zero_add, List.cons_append, List.nil_append, List.set_cons_zero, List.set_cons_succ, Option.toList]
  refine W.dup (pc' := 10) d_prog_10_method_1_code_9 rfl ?_
  refine W.aloadN (pc' := 11) d_prog_10_method_1_code_10 rfl rfl ?_
  refine W.aloadN (pc' := 12) d_prog_10_method_1_code_11 rfl rfl ?_
  refine W.aloadN (pc' := 13) d_prog_10_method_1_code_12 rfl rfl ?_
  refine W.aloadN (pc' := 14) d_prog_10_method_1_code_13 rfl rfl ?_
  refine W.callVirtual (pc' := 17) d_prog_10_method_1_code_14 (tw 95 rfl) (tw 96 rfl) (tw 98 rfl) (tw 97 rfl) (tw 3 rfl) (tw 99 rfl) rfl rfl (m_Display_color_ hw hst rfl) (lenOf pd3 rfl) rfl (by first | rfl | (simp [scS, sc, *]; done) | (simp [scS, sc]; omega)) rfl rfl rfl (by decide) (by decide) (fun v G' hQ => ?_)
  obtain ⟨rfl, rfl⟩ := hQ
  try simp only [List.length_cons, List.length_nil, Nat.reduceAdd, Nat.zero_add, List.cons_append, List.nil_append, List.set_cons_zero, List.set_cons_succ, Option.toList]
  refine W.callInit (pc' := 20) d_prog_10_method_1_code_17 (tw 100 rfl) (tw 101 rfl) (tw 94 rfl) (tw 102 rfl) (m_Pane__init__AAAI_v0 hw hst) (lenOf pd11 rfl) rfl (by first | rfl | (simp [scS, sc, *]; done) | (simp [scS, sc]; omega)) rfl rfl rfl (by decide) (by decide) (fun v G' hQ => ?_)
  obtain ⟨rfl, rfl⟩ := hQ
  try simp only [List.length_cons, List.length_nil, Nat.reduceAdd, Nat.zero_add, List.cons_append, List.nil_append, List.set_cons_zero, List.set_cons_succ, Option.toList]
  refine W.putfield (pc' := 23) (host := "") 2 d_prog_10_method_1_code_20 (Or.inl (tw 112 rfl)) (Or.inl rfl) rfl rfl rfl rfl (Or.inr ⟨tw 113 rfl, rfl, rfl⟩) (fun _ => rfl) (fun _ => rfl) rfl ?_
  try simp only [List.length_cons, List.length_nil, Nat.reduceAdd, Nat.zero_add, List.cons_append, List.nil_append, List.set_cons_zero, List.set_cons_succ, Option.toList]
  refine W.aloadN (pc' := 24) d_prog_10_method_1_code_23 rfl rfl ?_
  refine W.callUp (pc' := 27) d_prog_10_method_1_code_24 (tw 114 rfl) (tw 115 rfl) (tw 116 rfl) (tw 118 rfl) (tw 117 rfl) (tw 83 rfl) (tw 119 rfl) rfl rfl (m_PaneOwner_panes_ hw hst rfl (by simp)) (lenOf pd12 rfl) rfl (by first | rfl | (simp [scS, sc, *]; done) | (simp [scS, sc]; omega)) rfl rfl rfl (by decide) (by decide) (fun v G' hQ => ?_)
  obtain ⟨rfl, rfl⟩ := hQ
  try simp only [List.length_cons, List.length_nil, Nat.reduceAdd, Nat.zero_add, List.cons_append, List.nil_append, List.set_cons_zero, List.set_cons_succ, Option.toList]
  refine W.aloadN (pc' := 28) d_prog_10_method_1_code_27 rfl rfl ?_
  refine W.getfield (pc' := 31) (host := "") 2 d_prog_10_method_1_code_28 (Or.inl (tw 112 rfl)) (Or.inl rfl) rfl rfl rfl rfl ?_
  refine W.callFace (pc' := 36) d_prog_10_method_1_code_31 (tw 120 rfl) (tw 121 rfl) (tw 122 rfl) (tw 123 rfl) (tw 124 rfl) (tw 125 rfl) (tw 126 rfl) (tw 127 rfl) (tw 20 rfl) (tw 128 rfl) rfl rfl (m_ArrayList_add_A_v0 hw hst) (lenOf pd13 rfl) rfl (by first | rfl | (simp [scS, sc, *]; done) | (simp [scS, sc]; omega)) rfl rfl rfl (by decide) (by decide) (fun v G' hQ => ?_)
  obtain ⟨rfl, rfl⟩ := hQ
  try simp only [List.length_cons, List.length_nil, Nat.reduceAdd, Nat.zero_add, List.cons_append, List.nil_append, List.set_cons_zero, List.set_cons_succ, Option.toList]
  refine W.pop (pc' := 37) d_prog_10_method_1_code_36 rfl ?_
  refine W.return_ d_prog_10_method_1_code_37 (by decide) (by decide) ?_
  exact ⟨rfl, rfl⟩
set_option maxRecDepth 65536 in
set_option maxHeartbeats 4000000 in
theorem m_PaneOwner__init__A_v1 {l : Launch} {Z : State} {a0 : Array Value} {n0 : Nat} {oa : Addr} (hw : ∀ d ∈ tables_1, d.before a0 Z = true) (hst : Sta Z Z.heap "java/util/ArrayList" "DEFAULTCAPACITY_EMPTY_ELEMENTDATA" "[Ljava/lang/Object;" (.ref oa)) {rq : Obj} :
    Meth sg l Z n0 [oa] (⟨"com/example/guest_panes/guestpanes/PaneOwner", "<init>", "(Lcom/example/guest_panes/guestpanes/Display;)V"⟩ : MethodName) prog_18_method_1_code 2 none ({ frames := 4, cells := 1, slots := 3, locals := 52 } : Room) [.ref 10, .ref 1] [(.inr (.object "java/lang/Object"), []), (.inl 0, [.ref 3, .ref 2, .int 1, .int 1, .int 0]), (.inl 99, []), (.inl 2, [.int 0, .ref 0, .int 0]), rq, (.inl 4, [.ref 7, .ref 1, .ref 8, .null, .int 0]), (.inl 99, []), (.inl 2, [.int (0 + 1), .ref 9, .int (0 + 1)]), (.inl 5, [.ref 6, .ref 5, .ref 4, .int 0]), (.inr (.object "java/lang/Object"), [.ref 8, .null, .null, .null, .null, .null, .null, .null, .null, .null]), (.inl 4, [.null, .null, .null, .null, .int 0]), (.inl 99, [])] (fun v G' => v = none ∧ G' = [(.inr (.object "java/lang/Object"), []), (.inl 0, [.ref 3, .ref 2, .int 1, .int 1, .int 0]), (.inl 99, []), (.inl 2, [.int 0, .ref 0, .int 0]), rq, (.inl 4, [.ref 7, .ref 1, .ref 8, .null, .int 0]), (.inl 99, []), (.inl 2, [.int (0 + 1), .ref 9, .int (0 + 1)]), (.inl 5, [.ref 6, .ref 5, .ref 4, .int 0]), (.inr (.object "java/lang/Object"), [.ref 8, .null, .null, .null, .null, .null, .null, .null, .null, .null]), (.inl 4, [.ref 12, .ref 1, .null, .null, .int 0]), (.inl 99, []), (.inl 2, [.int 0, .ref 0, .int 0])]) := by
  refine Meth.of (a0 := a0) (tab := tables_1) (Ls := [.val (.ref 10), .val (.ref 1)]) pn_prog_18_method_1_code hw sgOk (fun ad m => ent rfl ad m) ?_
  intro J W
  refine W.aloadN (pc' := 1) d_prog_18_method_1_code_0 rfl rfl ?_
  refine W.initObject (pc' := 4) d_prog_18_method_1_code_1 (tw 85 rfl) (tw 16 rfl) (tw 17 rfl) rfl rfl rfl ?_
  refine W.aloadN (pc' := 5) d_prog_18_method_1_code_4 rfl rfl ?_
  refine W.new (pc' := 8) (vs := [.int 0, .null, .int 0]) 2 d_prog_18_method_1_code_5 rfl (tw 86 rfl) (tw 20 rfl) rfl (by first | rfl | (simp [scS, sc, *]; done) | (simp [scS, sc]; omega)) (by decide) (by decide) ?_
  try simp only [List.length_cons, List.length_nil, Nat.reduceAdd, Nat.zero_add, List.cons_append, List.nil_append, List.set_cons_zero, List.set_cons_succ, Option.toList]
  refine W.dup (pc' := 9) d_prog_18_method_1_code_8 rfl ?_
  refine W.callInit (pc' := 12) d_prog_18_method_1_code_9 (tw 87 rfl) (tw 22 rfl) (tw 20 rfl) (tw 23 rfl) (m_ArrayList__init__ (u := .int 0) (w := .null) (z := .int 0) hw hst rfl rfl) (lenOf pd0 rfl) rfl (by first | rfl | (simp [scS, sc, *]; done) | (simp [scS, sc]; omega)) rfl rfl rfl (by decide) (by decide) (fun v G' hQ => ?_)
  obtain ⟨rfl, rfl⟩ := hQ
  try simp only [List.length_cons, List.length_nil, Nat.reduceAdd, Nat.zero_add, List.cons_append, List.nil_append, List.set_cons_zero, List.set_cons_succ, Option.toList]
  refine W.putfield (pc' := 15) (host := "") 0 d_prog_18_method_1_code_12 (Or.inl (tw 88 rfl)) (Or.inl rfl) rfl rfl rfl rfl (Or.inr ⟨tw 89 rfl, rfl, rfl⟩) (fun _ => rfl) (fun _ => rfl) rfl ?_
  try simp only [List.length_cons, List.length_nil, Nat.reduceAdd, Nat.zero_add, List.cons_append, List.nil_append, List.set_cons_zero, List.set_cons_succ, Option.toList]
  refine W.aloadN (pc' := 16) d_prog_18_method_1_code_15 rfl rfl ?_
  refine W.aloadN (pc' := 17) d_prog_18_method_1_code_16 rfl rfl ?_
  refine W.putfield (pc' := 20) (host := "") 1 d_prog_18_method_1_code_17 (Or.inl (tw 90 rfl)) (Or.inl rfl) rfl rfl rfl rfl (Or.inr ⟨tw 91 rfl, rfl, rfl⟩) (fun _ => rfl) (fun _ => rfl) rfl ?_
  try simp only [List.length_cons, List.length_nil, Nat.reduceAdd, Nat.zero_add, List.cons_append, List.nil_append, List.set_cons_zero, List.set_cons_succ, Option.toList]
  refine W.return_ d_prog_18_method_1_code_20 (by decide) (by decide) ?_
  exact ⟨rfl, rfl⟩
set_option maxRecDepth 65536 in
set_option maxHeartbeats 4000000 in
theorem m_Pane__init__AAAI_v1 {l : Launch} {Z : State} {a0 : Array Value} {n0 : Nat} {oa : Addr} (hw : ∀ d ∈ tables_1, d.before a0 Z = true) (hst : Sta Z Z.heap "java/util/ArrayList" "DEFAULTCAPACITY_EMPTY_ELEMENTDATA" "[Ljava/lang/Object;" (.ref oa)) {rq : Obj} :
    Meth sg l Z n0 [oa] (⟨"com/example/guest_panes/guestpanes/Pane", "<init>", "(Ljava/lang/String;Lcom/example/guest_panes/guestpanes/PaneOwner;Lcom/example/guest_panes/guestpanes/Rect;I)V"⟩ : MethodName) prog_17_method_1_code 5 none ({ frames := 1, cells := 0, slots := 0, locals := 12 } : Room) [.ref 13, .ref 11, .ref 10, .ref 4, .int 0] [(.inr (.object "java/lang/Object"), []), (.inl 0, [.ref 3, .ref 2, .int 1, .int 1, .int 0]), (.inl 99, []), (.inl 2, [.int 0, .ref 0, .int 0]), rq, (.inl 4, [.ref 7, .ref 1, .ref 8, .null, .int 0]), (.inl 99, []), (.inl 2, [.int (0 + 1), .ref 9, .int (0 + 1)]), (.inl 5, [.ref 6, .ref 5, .ref 4, .int 0]), (.inr (.object "java/lang/Object"), [.ref 8, .null, .null, .null, .null, .null, .null, .null, .null, .null]), (.inl 4, [.ref 12, .ref 1, .null, .null, .int 0]), (.inl 99, []), (.inl 2, [.int 0, .ref 0, .int 0]), (.inl 5, [.null, .null, .null, .int 0])] (fun v G' => v = none ∧ G' = [(.inr (.object "java/lang/Object"), []), (.inl 0, [.ref 3, .ref 2, .int 1, .int 1, .int 0]), (.inl 99, []), (.inl 2, [.int 0, .ref 0, .int 0]), rq, (.inl 4, [.ref 7, .ref 1, .ref 8, .null, .int 0]), (.inl 99, []), (.inl 2, [.int (0 + 1), .ref 9, .int (0 + 1)]), (.inl 5, [.ref 6, .ref 5, .ref 4, .int 0]), (.inr (.object "java/lang/Object"), [.ref 8, .null, .null, .null, .null, .null, .null, .null, .null, .null]), (.inl 4, [.ref 12, .ref 1, .null, .null, .int 0]), (.inl 99, []), (.inl 2, [.int 0, .ref 0, .int 0]), (.inl 5, [.ref 11, .ref 10, .ref 4, .int 0])]) := by
  refine Meth.of (a0 := a0) (tab := tables_1) (Ls := [.val (.ref 13), .val (.ref 11), .val (.ref 10), .val (.ref 4), .val (.int 0)]) pn_prog_17_method_1_code hw sgOk (fun ad m => ent rfl ad m) ?_
  intro J W
  refine W.aloadN (pc' := 1) d_prog_17_method_1_code_0 rfl rfl ?_
  refine W.initObject (pc' := 4) d_prog_17_method_1_code_1 (tw 103 rfl) (tw 16 rfl) (tw 17 rfl) rfl rfl rfl ?_
  refine W.aloadN (pc' := 5) d_prog_17_method_1_code_4 rfl rfl ?_
  refine W.aloadN (pc' := 6) d_prog_17_method_1_code_5 rfl rfl ?_
  refine W.putfield (pc' := 9) (host := "") 0 d_prog_17_method_1_code_6 (Or.inl (tw 104 rfl)) (Or.inl rfl) rfl rfl rfl rfl (Or.inr ⟨tw 105 rfl, rfl, rfl⟩) (fun _ => rfl) (fun _ => rfl) rfl ?_
  try simp only [List.length_cons, List.length_nil, Nat.reduceAdd, Nat.zero_add, List.cons_append, List.nil_append, List.set_cons_zero, List.set_cons_succ, Option.toList]
  refine W.aloadN (pc' := 10) d_prog_17_method_1_code_9 rfl rfl ?_
  refine W.aloadN (pc' := 11) d_prog_17_method_1_code_10 rfl rfl ?_
  refine W.putfield (pc' := 14) (host := "") 1 d_prog_17_method_1_code_11 (Or.inl (tw 106 rfl)) (Or.inl rfl) rfl rfl rfl rfl (Or.inr ⟨tw 107 rfl, rfl, rfl⟩) (fun _ => rfl) (fun _ => rfl) rfl ?_
  try simp only [List.length_cons, List.length_nil, Nat.reduceAdd, Nat.zero_add, List.cons_append, List.nil_append, List.set_cons_zero, List.set_cons_succ, Option.toList]
  refine W.aloadN (pc' := 15) d_prog_17_method_1_code_14 rfl rfl ?_
  refine W.aloadN (pc' := 16) d_prog_17_method_1_code_15 rfl rfl ?_
  refine W.putfield (pc' := 19) (host := "") 2 d_prog_17_method_1_code_16 (Or.inl (tw 108 rfl)) (Or.inl rfl) rfl rfl rfl rfl (Or.inl (tw 109 rfl)) (fun _ => rfl) (fun _ => rfl) rfl ?_
  try simp only [List.length_cons, List.length_nil, Nat.reduceAdd, Nat.zero_add, List.cons_append, List.nil_append, List.set_cons_zero, List.set_cons_succ, Option.toList]
  refine W.aloadN (pc' := 20) d_prog_17_method_1_code_19 rfl rfl ?_
  refine W.iload (pc' := 22) d_prog_17_method_1_code_20 rfl ?_
  refine W.putfield (pc' := 25) (host := "") 3 d_prog_17_method_1_code_22 (Or.inl (tw 110 rfl)) (Or.inl rfl) rfl rfl rfl rfl (Or.inr ⟨tw 111 rfl, rfl, rfl⟩) (fun _ => rfl) (fun _ => rfl) rfl ?_
  try simp only [List.length_cons, List.length_nil, Nat.reduceAdd, Nat.zero_add, List.cons_append, List.nil_append, List.set_cons_zero, List.set_cons_succ, Option.toList]
  refine W.return_ d_prog_17_method_1_code_25 (by decide) (by decide) ?_
  exact ⟨rfl, rfl⟩
set_option maxRecDepth 65536 in
set_option maxHeartbeats 4000000 in
theorem m_ArrayList_grow_I_v1 {l : Launch} {Z : State} {a0 : Array Value} {n0 : Nat} {oa : Addr} (hw : ∀ d ∈ tables_1, d.before a0 Z = true) (hst : Sta Z Z.heap "java/util/ArrayList" "DEFAULTCAPACITY_EMPTY_ELEMENTDATA" "[Ljava/lang/Object;" (.ref oa)) {rq : Obj} :
    Meth sg l Z n0 [oa] (⟨"java/util/ArrayList", "grow", "(I)[Ljava/lang/Object;"⟩ : MethodName) jdk_38_method_6_code 4 (some (.array (.object "java/lang/Object"))) ({ frames := 1, cells := 1, slots := 10, locals := 16 } : Room) [.ref 12, .int (0 + 1)] [(.inr (.object "java/lang/Object"), []), (.inl 0, [.ref 3, .ref 2, .int 1, .int 1, .int 0]), (.inl 99, []), (.inl 2, [.int 0, .ref 0, .int 0]), rq, (.inl 4, [.ref 7, .ref 1, .ref 8, .null, .int 0]), (.inl 99, []), (.inl 2, [.int (0 + 1), .ref 9, .int (0 + 1)]), (.inl 5, [.ref 6, .ref 5, .ref 4, .int 0]), (.inr (.object "java/lang/Object"), [.ref 8, .null, .null, .null, .null, .null, .null, .null, .null, .null]), (.inl 4, [.ref 12, .ref 1, .ref 13, .null, .int 0]), (.inl 99, []), (.inl 2, [.int (0 + 1), .ref 0, .int 0]), (.inl 5, [.ref 11, .ref 10, .ref 4, .int 0])] (fun v G' => v = some (.ref 14) ∧ G' = [(.inr (.object "java/lang/Object"), []), (.inl 0, [.ref 3, .ref 2, .int 1, .int 1, .int 0]), (.inl 99, []), (.inl 2, [.int 0, .ref 0, .int 0]), rq, (.inl 4, [.ref 7, .ref 1, .ref 8, .null, .int 0]), (.inl 99, []), (.inl 2, [.int (0 + 1), .ref 9, .int (0 + 1)]), (.inl 5, [.ref 6, .ref 5, .ref 4, .int 0]), (.inr (.object "java/lang/Object"), [.ref 8, .null, .null, .null, .null, .null, .null, .null, .null, .null]), (.inl 4, [.ref 12, .ref 1, .ref 13, .null, .int 0]), (.inl 99, []), (.inl 2, [.int (0 + 1), .ref 14, .int 0]), (.inl 5, [.ref 11, .ref 10, .ref 4, .int 0]), (.inr (.object "java/lang/Object"), [.null, .null, .null, .null, .null, .null, .null, .null, .null, .null])]) := by
  refine Meth.of (a0 := a0) (tab := tables_1) (Ls := [.val (.ref 12), .val (.int (0 + 1)), .unset, .unset]) pn_jdk_38_method_6_code hw sgOk (fun ad m => ent rfl ad m) ?_
  intro J W
  refine W.aloadN (pc' := 1) d_jdk_38_method_6_code_0 rfl rfl ?_
  refine W.getfield (pc' := 4) (host := "") 1 d_jdk_38_method_6_code_1 (Or.inl (tw 40 rfl)) (Or.inl rfl) rfl rfl rfl rfl ?_
  refine W.arraylength (pc' := 5) (0) d_jdk_38_method_6_code_4 rfl rfl ?_
  refine W.istoreN (pc' := 6) (i' := 2) d_jdk_38_method_6_code_5 rfl ?_
  try simp only [List.length_cons, List.length_nil, Nat.reduceAdd, Nat.zero_add, List.cons_append, List.nil_append, List.set_cons_zero, List.set_cons_succ, Option.toList]
  refine W.iloadN (pc' := 7) d_jdk_38_method_6_code_6 rfl ?_
  refine W.if_gt (pc' := 20) (pc2 := 10) d_jdk_38_method_6_code_7 (fun hz_ => absurd hz_ (by decide)) (fun _ => ?_)
  refine W.aloadN (pc' := 11) d_jdk_38_method_6_code_10 rfl rfl ?_
  refine W.getfield (pc' := 14) (host := "") 1 d_jdk_38_method_6_code_11 (Or.inl (tw 40 rfl)) (Or.inl rfl) rfl rfl rfl rfl ?_
  refine W.getstatic (j := 0) (pc' := 17) d_jdk_38_method_6_code_14 (tw 39 rfl) rfl hst ?_
  refine W.acmp_eq_t (pc' := 45) d_jdk_38_method_6_code_17 rfl rfl (rfl) ?_
  refine W.aloadN (pc' := 46) d_jdk_38_method_6_code_45 rfl rfl ?_
  refine W.bipush (pc' := 48) (10) d_jdk_38_method_6_code_46 rfl ?_
  refine W.iloadN (pc' := 49) d_jdk_38_method_6_code_48 rfl ?_
  refine W.callStatic (pc' := 52) d_jdk_38_method_6_code_49 (tw 148 rfl) (tw 149 rfl) (tw 150 rfl) (tw 151 rfl) (m_Math_max_II hw hst) (lenOf pd1 rfl) rfl (by first | rfl | (simp [scS, sc, *]; done) | (simp [scS, sc]; omega)) rfl rfl rfl (by decide) (by decide) (fun v G' hQ => ?_)
  obtain ⟨rfl, rfl⟩ := hQ
  try simp only [List.length_cons, List.length_nil, Nat.reduceAdd, Nat.zero_add, List.cons_append, List.nil_append, List.set_cons_zero, List.set_cons_succ, Option.toList]
  refine W.anewarray (pc' := 55) (vs := [.null, .null, .null, .null, .null, .null, .null, .null, .null, .null]) 10 d_jdk_38_method_6_code_52 (tw 152 rfl) (tw 153 rfl) (by decide) rfl (by decide) (by first | rfl | (simp [scS, sc, *]; done) | (simp [scS, sc]; omega)) (by decide) (by decide) ?_
  try simp only [List.length_cons, List.length_nil, Nat.reduceAdd, Nat.zero_add, List.cons_append, List.nil_append, List.set_cons_zero, List.set_cons_succ, Option.toList]
  refine W.dupX1 (pc' := 56) d_jdk_38_method_6_code_55 rfl rfl ?_
  refine W.putfield (pc' := 59) (host := "") 1 d_jdk_38_method_6_code_56 (Or.inl (tw 40 rfl)) (Or.inl rfl) rfl rfl rfl rfl (Or.inl (tw 41 rfl)) (fun _ => rfl) (fun _ => rfl) rfl ?_
  try simp only [List.length_cons, List.length_nil, Nat.reduceAdd, Nat.zero_add, List.cons_append, List.nil_append, List.set_cons_zero, List.set_cons_succ, Option.toList]
  refine W.areturn d_jdk_38_method_6_code_59 rfl rfl (by first | rfl | (simp [scS, sc, *]; done) | (simp [scS, sc]; omega)) (by decide) (by decide) ?_
  exact ⟨rfl, rfl⟩
set_option maxRecDepth 65536 in
set_option maxHeartbeats 4000000 in
theorem m_ArrayList_grow__v1 {l : Launch} {Z : State} {a0 : Array Value} {n0 : Nat} {oa : Addr} (hw : ∀ d ∈ tables_1, d.before a0 Z = true) (hst : Sta Z Z.heap "java/util/ArrayList" "DEFAULTCAPACITY_EMPTY_ELEMENTDATA" "[Ljava/lang/Object;" (.ref oa)) {rq : Obj} :
    Meth sg l Z n0 [oa] (⟨"java/util/ArrayList", "grow", "()[Ljava/lang/Object;"⟩ : MethodName) jdk_38_method_7_code 1 (some (.array (.object "java/lang/Object"))) ({ frames := 2, cells := 1, slots := 10, locals := 32 } : Room) [.ref 12] [(.inr (.object "java/lang/Object"), []), (.inl 0, [.ref 3, .ref 2, .int 1, .int 1, .int 0]), (.inl 99, []), (.inl 2, [.int 0, .ref 0, .int 0]), rq, (.inl 4, [.ref 7, .ref 1, .ref 8, .null, .int 0]), (.inl 99, []), (.inl 2, [.int (0 + 1), .ref 9, .int (0 + 1)]), (.inl 5, [.ref 6, .ref 5, .ref 4, .int 0]), (.inr (.object "java/lang/Object"), [.ref 8, .null, .null, .null, .null, .null, .null, .null, .null, .null]), (.inl 4, [.ref 12, .ref 1, .ref 13, .null, .int 0]), (.inl 99, []), (.inl 2, [.int (0 + 1), .ref 0, .int 0]), (.inl 5, [.ref 11, .ref 10, .ref 4, .int 0])] (fun v G' => v = some (.ref 14) ∧ G' = [(.inr (.object "java/lang/Object"), []), (.inl 0, [.ref 3, .ref 2, .int 1, .int 1, .int 0]), (.inl 99, []), (.inl 2, [.int 0, .ref 0, .int 0]), rq, (.inl 4, [.ref 7, .ref 1, .ref 8, .null, .int 0]), (.inl 99, []), (.inl 2, [.int (0 + 1), .ref 9, .int (0 + 1)]), (.inl 5, [.ref 6, .ref 5, .ref 4, .int 0]), (.inr (.object "java/lang/Object"), [.ref 8, .null, .null, .null, .null, .null, .null, .null, .null, .null]), (.inl 4, [.ref 12, .ref 1, .ref 13, .null, .int 0]), (.inl 99, []), (.inl 2, [.int (0 + 1), .ref 14, .int 0]), (.inl 5, [.ref 11, .ref 10, .ref 4, .int 0]), (.inr (.object "java/lang/Object"), [.null, .null, .null, .null, .null, .null, .null, .null, .null, .null])]) := by
  refine Meth.of (a0 := a0) (tab := tables_1) (Ls := [.val (.ref 12)]) pn_jdk_38_method_7_code hw sgOk (fun ad m => ent rfl ad m) ?_
  intro J W
  refine W.aloadN (pc' := 1) d_jdk_38_method_7_code_0 rfl rfl ?_
  refine W.aloadN (pc' := 2) d_jdk_38_method_7_code_1 rfl rfl ?_
  refine W.getfield (pc' := 5) (host := "") 2 d_jdk_38_method_7_code_2 (Or.inl (tw 131 rfl)) (Or.inl rfl) rfl rfl rfl rfl ?_
  refine W.iconst (pc' := 6) (1) d_jdk_38_method_7_code_5 rfl ?_
  refine W.iadd (pc' := 7) d_jdk_38_method_7_code_6 ?_
  refine W.callPrivate (pc' := 10) d_jdk_38_method_7_code_7 (tw 143 rfl) (tw 144 rfl) (tw 145 rfl) (tw 20 rfl) (tw 147 rfl) rfl rfl rfl (m_ArrayList_grow_I_v1 hw hst) (lenOf pd7 rfl) rfl (by first | rfl | (simp [scS, sc, *]; done) | (simp [scS, sc]; omega)) rfl rfl rfl (by decide) (by decide) (fun v G' hQ => ?_)
  obtain ⟨rfl, rfl⟩ := hQ
  try simp only [List.length_cons, List.length_nil, Nat.reduceAdd, Nat.zero_add, List.cons_append, List.nil_append, List.set_cons_zero, List.set_cons_succ, Option.toList]
  refine W.areturn d_jdk_38_method_7_code_10 rfl rfl (by first | rfl | (simp [scS, sc, *]; done) | (simp [scS, sc]; omega)) (by decide) (by decide) ?_
  exact ⟨rfl, rfl⟩
set_option maxRecDepth 65536 in
set_option maxHeartbeats 4000000 in
theorem m_ArrayList_add_AAI_v1 {l : Launch} {Z : State} {a0 : Array Value} {n0 : Nat} {oa : Addr} (hw : ∀ d ∈ tables_1, d.before a0 Z = true) (hst : Sta Z Z.heap "java/util/ArrayList" "DEFAULTCAPACITY_EMPTY_ELEMENTDATA" "[Ljava/lang/Object;" (.ref oa)) {rq : Obj} :
    Meth sg l Z n0 [oa] (⟨"java/util/ArrayList", "add", "(Ljava/lang/Object;[Ljava/lang/Object;I)V"⟩ : MethodName) jdk_38_method_24_code 4 none ({ frames := 3, cells := 1, slots := 10, locals := 46 } : Room) [.ref 12, .ref 13, .ref 0, .int 0] [(.inr (.object "java/lang/Object"), []), (.inl 0, [.ref 3, .ref 2, .int 1, .int 1, .int 0]), (.inl 99, []), (.inl 2, [.int 0, .ref 0, .int 0]), rq, (.inl 4, [.ref 7, .ref 1, .ref 8, .null, .int 0]), (.inl 99, []), (.inl 2, [.int (0 + 1), .ref 9, .int (0 + 1)]), (.inl 5, [.ref 6, .ref 5, .ref 4, .int 0]), (.inr (.object "java/lang/Object"), [.ref 8, .null, .null, .null, .null, .null, .null, .null, .null, .null]), (.inl 4, [.ref 12, .ref 1, .ref 13, .null, .int 0]), (.inl 99, []), (.inl 2, [.int (0 + 1), .ref 0, .int 0]), (.inl 5, [.ref 11, .ref 10, .ref 4, .int 0])] (fun v G' => v = none ∧ G' = [(.inr (.object "java/lang/Object"), []), (.inl 0, [.ref 3, .ref 2, .int 1, .int 1, .int 0]), (.inl 99, []), (.inl 2, [.int 0, .ref 0, .int 0]), rq, (.inl 4, [.ref 7, .ref 1, .ref 8, .null, .int 0]), (.inl 99, []), (.inl 2, [.int (0 + 1), .ref 9, .int (0 + 1)]), (.inl 5, [.ref 6, .ref 5, .ref 4, .int 0]), (.inr (.object "java/lang/Object"), [.ref 8, .null, .null, .null, .null, .null, .null, .null, .null, .null]), (.inl 4, [.ref 12, .ref 1, .ref 13, .null, .int 0]), (.inl 99, []), (.inl 2, [.int (0 + 1), .ref 14, .int (0 + 1)]), (.inl 5, [.ref 11, .ref 10, .ref 4, .int 0]), (.inr (.object "java/lang/Object"), [.ref 13, .null, .null, .null, .null, .null, .null, .null, .null, .null])]) := by
  refine Meth.of (a0 := a0) (tab := tables_1) (Ls := [.val (.ref 12), .val (.ref 13), .val (.ref 0), .val (.int 0)]) pn_jdk_38_method_24_code hw sgOk (fun ad m => ent rfl ad m) ?_
  intro J W
  refine W.iloadN (pc' := 1) d_jdk_38_method_24_code_0 rfl ?_
  refine W.aloadN (pc' := 2) d_jdk_38_method_24_code_1 rfl rfl ?_
  refine W.arraylength (pc' := 3) (0) d_jdk_38_method_24_code_2 rfl rfl ?_
  refine W.icmp_ne (pc' := 11) (pc2 := 6) d_jdk_38_method_24_code_3 (fun _ => ?_) (fun hz_ => absurd (rfl) hz_)
  refine W.aloadN (pc' := 7) d_jdk_38_method_24_code_6 rfl rfl ?_
  refine W.callPrivate (pc' := 10) d_jdk_38_method_24_code_7 (tw 138 rfl) (tw 139 rfl) (tw 140 rfl) (tw 20 rfl) (tw 142 rfl) rfl rfl rfl (m_ArrayList_grow__v1 hw hst) (lenOf pd8 rfl) rfl (by first | rfl | (simp [scS, sc, *]; done) | (simp [scS, sc]; omega)) rfl rfl rfl (by decide) (by decide) (fun v G' hQ => ?_)
  obtain ⟨rfl, rfl⟩ := hQ
  try simp only [List.length_cons, List.length_nil, Nat.reduceAdd, Nat.zero_add, List.cons_append, List.nil_append, List.set_cons_zero, List.set_cons_succ, Option.toList]
  refine W.astoreN (pc' := 11) (i' := 2) d_jdk_38_method_24_code_10 rfl rfl ?_
  try simp only [List.length_cons, List.length_nil, Nat.reduceAdd, Nat.zero_add, List.cons_append, List.nil_append, List.set_cons_zero, List.set_cons_succ, Option.toList]
  refine W.aloadN (pc' := 12) d_jdk_38_method_24_code_11 rfl rfl ?_
  refine W.iloadN (pc' := 13) d_jdk_38_method_24_code_12 rfl ?_
  refine W.aloadN (pc' := 14) d_jdk_38_method_24_code_13 rfl rfl ?_
  refine W.aastore (pc' := 15) 0 d_jdk_38_method_24_code_14 rfl rfl (by decide) (by decide) rfl rfl (tw 154 rfl) ?_
  try simp only [List.length_cons, List.length_nil, Nat.reduceAdd, Nat.zero_add, List.cons_append, List.nil_append, List.set_cons_zero, List.set_cons_succ, Option.toList]
  refine W.aloadN (pc' := 16) d_jdk_38_method_24_code_15 rfl rfl ?_
  refine W.iloadN (pc' := 17) d_jdk_38_method_24_code_16 rfl ?_
  refine W.iconst (pc' := 18) (1) d_jdk_38_method_24_code_17 rfl ?_
  refine W.iadd (pc' := 19) d_jdk_38_method_24_code_18 ?_
  refine W.putfield (pc' := 22) (host := "") 2 d_jdk_38_method_24_code_19 (Or.inl (tw 131 rfl)) (Or.inl rfl) rfl rfl rfl rfl (Or.inl (tw 132 rfl)) (fun _ => rfl) (fun _ => rfl) rfl ?_
  try simp only [List.length_cons, List.length_nil, Nat.reduceAdd, Nat.zero_add, List.cons_append, List.nil_append, List.set_cons_zero, List.set_cons_succ, Option.toList]
  refine W.return_ d_jdk_38_method_24_code_22 (by decide) (by decide) ?_
  exact ⟨rfl, rfl⟩
set_option maxRecDepth 65536 in
set_option maxHeartbeats 4000000 in
theorem m_ArrayList_add_A_v1 {l : Launch} {Z : State} {a0 : Array Value} {n0 : Nat} {oa : Addr} (hw : ∀ d ∈ tables_1, d.before a0 Z = true) (hst : Sta Z Z.heap "java/util/ArrayList" "DEFAULTCAPACITY_EMPTY_ELEMENTDATA" "[Ljava/lang/Object;" (.ref oa)) {rq : Obj} :
    Meth sg l Z n0 [oa] (⟨"java/util/ArrayList", "add", "(Ljava/lang/Object;)Z"⟩ : MethodName) jdk_38_method_25_code 2 (some .boolean) ({ frames := 4, cells := 1, slots := 10, locals := 62 } : Room) [.ref 12, .ref 13] [(.inr (.object "java/lang/Object"), []), (.inl 0, [.ref 3, .ref 2, .int 1, .int 1, .int 0]), (.inl 99, []), (.inl 2, [.int 0, .ref 0, .int 0]), rq, (.inl 4, [.ref 7, .ref 1, .ref 8, .null, .int 0]), (.inl 99, []), (.inl 2, [.int (0 + 1), .ref 9, .int (0 + 1)]), (.inl 5, [.ref 6, .ref 5, .ref 4, .int 0]), (.inr (.object "java/lang/Object"), [.ref 8, .null, .null, .null, .null, .null, .null, .null, .null, .null]), (.inl 4, [.ref 12, .ref 1, .ref 13, .null, .int 0]), (.inl 99, []), (.inl 2, [.int 0, .ref 0, .int 0]), (.inl 5, [.ref 11, .ref 10, .ref 4, .int 0])] (fun v G' => v = some (.int 1) ∧ G' = [(.inr (.object "java/lang/Object"), []), (.inl 0, [.ref 3, .ref 2, .int 1, .int 1, .int 0]), (.inl 99, []), (.inl 2, [.int 0, .ref 0, .int 0]), rq, (.inl 4, [.ref 7, .ref 1, .ref 8, .null, .int 0]), (.inl 99, []), (.inl 2, [.int (0 + 1), .ref 9, .int (0 + 1)]), (.inl 5, [.ref 6, .ref 5, .ref 4, .int 0]), (.inr (.object "java/lang/Object"), [.ref 8, .null, .null, .null, .null, .null, .null, .null, .null, .null]), (.inl 4, [.ref 12, .ref 1, .ref 13, .null, .int 0]), (.inl 99, []), (.inl 2, [.int (0 + 1), .ref 14, .int (0 + 1)]), (.inl 5, [.ref 11, .ref 10, .ref 4, .int 0]), (.inr (.object "java/lang/Object"), [.ref 13, .null, .null, .null, .null, .null, .null, .null, .null, .null])]) := by
  refine Meth.of (a0 := a0) (tab := tables_1) (Ls := [.val (.ref 12), .val (.ref 13)]) pn_jdk_38_method_25_code hw sgOk (fun ad m => ent rfl ad m) ?_
  intro J W
  refine W.aloadN (pc' := 1) d_jdk_38_method_25_code_0 rfl rfl ?_
  refine W.dup (pc' := 2) d_jdk_38_method_25_code_1 rfl ?_
  refine W.getfield (pc' := 5) (host := "") 0 d_jdk_38_method_25_code_2 (Or.inl (tw 129 rfl)) (Or.inr (tw 130 rfl)) rfl rfl rfl rfl ?_
  refine W.iconst (pc' := 6) (1) d_jdk_38_method_25_code_5 rfl ?_
  refine W.iadd (pc' := 7) d_jdk_38_method_25_code_6 ?_
  refine W.putfield (pc' := 10) (host := "") 0 d_jdk_38_method_25_code_7 (Or.inl (tw 129 rfl)) (Or.inr (tw 130 rfl)) rfl rfl rfl rfl (Or.inl (tw 38 rfl)) (fun _ => rfl) (fun _ => rfl) rfl ?_
  try simp only [List.length_cons, List.length_nil, Nat.reduceAdd, Nat.zero_add, List.cons_append, List.nil_append, List.set_cons_zero, List.set_cons_succ, Option.toList]
  refine W.aloadN (pc' := 11) d_jdk_38_method_25_code_10 rfl rfl ?_
  refine W.aloadN (pc' := 12) d_jdk_38_method_25_code_11 rfl rfl ?_
  refine W.aloadN (pc' := 13) d_jdk_38_method_25_code_12 rfl rfl ?_
  refine W.getfield (pc' := 16) (host := "") 1 d_jdk_38_method_25_code_13 (Or.inl (tw 40 rfl)) (Or.inl rfl) rfl rfl rfl rfl ?_
  refine W.aloadN (pc' := 17) d_jdk_38_method_25_code_16 rfl rfl ?_
  refine W.getfield (pc' := 20) (host := "") 2 d_jdk_38_method_25_code_17 (Or.inl (tw 131 rfl)) (Or.inl rfl) rfl rfl rfl rfl ?_
  refine W.callPrivate (pc' := 23) d_jdk_38_method_25_code_20 (tw 133 rfl) (tw 134 rfl) (tw 135 rfl) (tw 20 rfl) (tw 137 rfl) rfl rfl rfl (m_ArrayList_add_AAI_v1 hw hst) (lenOf pd9 rfl) rfl (by first | rfl | (simp [scS, sc, *]; done) | (simp [scS, sc]; omega)) rfl rfl rfl (by decide) (by decide) (fun v G' hQ => ?_)
  obtain ⟨rfl, rfl⟩ := hQ
  try simp only [List.length_cons, List.length_nil, Nat.reduceAdd, Nat.zero_add, List.cons_append, List.nil_append, List.set_cons_zero, List.set_cons_succ, Option.toList]
  refine W.iconst (pc' := 24) (1) d_jdk_38_method_25_code_23 rfl ?_
  refine W.zreturn d_jdk_38_method_25_code_24 (by decide) (by decide) (by decide) ?_
  exact ⟨rfl, rfl⟩
set_option maxRecDepth 65536 in
set_option maxHeartbeats 4000000 in
theorem m_FreeWindow__init__AAA_v1 {l : Launch} {Z : State} {a0 : Array Value} {n0 : Nat} {oa : Addr} (hw : ∀ d ∈ tables_1, d.before a0 Z = true) (hst : Sta Z Z.heap "java/util/ArrayList" "DEFAULTCAPACITY_EMPTY_ELEMENTDATA" "[Ljava/lang/Object;" (.ref oa)) {rq : Obj} :
    Meth sg l Z n0 [oa] (⟨"com/example/guest_panes/guestpanes/FreeWindow", "<init>", "(Ljava/lang/String;Lcom/example/guest_panes/guestpanes/Display;Lcom/example/guest_panes/guestpanes/Rect;)V"⟩ : MethodName) prog_10_method_1_code 4 none ({ frames := 5, cells := 3, slots := 21, locals := 80 } : Room) [.ref 10, .ref 11, .ref 1, .ref 4] [(.inr (.object "java/lang/Object"), []), (.inl 0, [.ref 3, .ref 2, .int 1, .int 1, .int 0]), (.inl 99, []), (.inl 2, [.int 0, .ref 0, .int 0]), rq, (.inl 4, [.ref 7, .ref 1, .ref 8, .null, .int 0]), (.inl 99, []), (.inl 2, [.int (0 + 1), .ref 9, .int (0 + 1)]), (.inl 5, [.ref 6, .ref 5, .ref 4, .int 0]), (.inr (.object "java/lang/Object"), [.ref 8, .null, .null, .null, .null, .null, .null, .null, .null, .null]), (.inl 4, [.null, .null, .null, .null, .int 0]), (.inl 99, [])] (fun v G' => v = none ∧ G' = [(.inr (.object "java/lang/Object"), []), (.inl 0, [.ref 3, .ref 2, .int 1, .int 1, .int 0]), (.inl 99, []), (.inl 2, [.int 0, .ref 0, .int 0]), rq, (.inl 4, [.ref 7, .ref 1, .ref 8, .null, .int 0]), (.inl 99, []), (.inl 2, [.int (0 + 1), .ref 9, .int (0 + 1)]), (.inl 5, [.ref 6, .ref 5, .ref 4, .int 0]), (.inr (.object "java/lang/Object"), [.ref 8, .null, .null, .null, .null, .null, .null, .null, .null, .null]), (.inl 4, [.ref 12, .ref 1, .ref 13, .null, .int 0]), (.inl 99, []), (.inl 2, [.int (0 + 1), .ref 14, .int (0 + 1)]), (.inl 5, [.ref 11, .ref 10, .ref 4, .int 0]), (.inr (.object "java/lang/Object"), [.ref 13, .null, .null, .null, .null, .null, .null, .null, .null, .null])]) := by
  refine Meth.of (a0 := a0) (tab := tables_1) (Ls := [.val (.ref 10), .val (.ref 11), .val (.ref 1), .val (.ref 4)]) pn_prog_10_method_1_code hw sgOk (fun ad m => ent rfl ad m) ?_
  intro J W
  refine W.aloadN (pc' := 1) d_prog_10_method_1_code_0 rfl rfl ?_
  refine W.aloadN (pc' := 2) d_prog_10_method_1_code_1 rfl rfl ?_
  refine W.callInit (pc' := 5) d_prog_10_method_1_code_2 (tw 80 rfl) (tw 81 rfl) (tw 83 rfl) (tw 84 rfl) (m_PaneOwner__init__A_v1 hw hst) (lenOf pd10 rfl) rfl (by first | rfl | (simp [scS, sc, *]; done) | (simp [scS, sc]; omega)) rfl rfl rfl (by decide) (by decide) (fun v G' hQ => ?_)
  obtain ⟨rfl, rfl⟩ := hQ
  try simp only [List.length_cons, List.length_nil, Nat.reduceAdd, Nat.zero_add, List.cons_append, List.nil_append, List.set_cons_zero, List.set_cons_succ, Option.toList]
  refine W.aloadN (pc' := 6) d_prog_10_method_1_code_5 rfl rfl ?_
  refine W.new (pc' := 9) (vs := [.null, .null, .null, .int 0]) 5 d_prog_10_method_1_code_6 rfl (tw 92 rfl) (tw 94 rfl) rfl (by first | rfl | (simp [scS, sc, *]; done) | (simp [scS, sc]; omega)) (by decide) (by decide) ?_
  try simp only [List.length_cons, List.length_nil, Nat.reduceAdd, Nat.zero_add, List.cons_append, List.nil_append, List.set_cons_zero, List.set_cons_succ, Option.toList]
  refine W.dup (pc' := 10) d_prog_10_method_1_code_9 rfl ?_
  refine W.aloadN (pc' := 11) d_prog_10_method_1_code_10 rfl rfl ?_
  refine W.aloadN (pc' := 12) d_prog_10_method_1_code_11 rfl rfl ?_
  refine W.aloadN (pc' := 13) d_prog_10_method_1_code_12 rfl rfl ?_
  refine W.aloadN (pc' := 14) d_prog_10_method_1_code_13 rfl rfl ?_
  refine W.callVirtual (pc' := 17) d_prog_10_method_1_code_14 (tw 95 rfl) (tw 96 rfl) (tw 98 rfl) (tw 97 rfl) (tw 3 rfl) (tw 99 rfl) rfl rfl (m_Display_color_ hw hst rfl) (lenOf pd3 rfl) rfl (by first | rfl | (simp [scS, sc, *]; done) | (simp [scS, sc]; omega)) rfl rfl rfl (by decide) (by decide) (fun v G' hQ => ?_)
  obtain ⟨rfl, rfl⟩ := hQ
  try simp only [List.length_cons, List.length_nil, Nat.reduceAdd, Nat.zero_add, List.cons_append, List.nil_append, List.set_cons_zero, List.set_cons_succ, Option.toList]
  refine W.callInit (pc' := 20) d_prog_10_method_1_code_17 (tw 100 rfl) (tw 101 rfl) (tw 94 rfl) (tw 102 rfl) (m_Pane__init__AAAI_v1 hw hst) (lenOf pd11 rfl) rfl (by first | rfl | (simp [scS, sc, *]; done) | (simp [scS, sc]; omega)) rfl rfl rfl (by decide) (by decide) (fun v G' hQ => ?_)
  obtain ⟨rfl, rfl⟩ := hQ
  try simp only [List.length_cons, List.length_nil, Nat.reduceAdd, Nat.zero_add, List.cons_append, List.nil_append, List.set_cons_zero, List.set_cons_succ, Option.toList]
  refine W.putfield (pc' := 23) (host := "") 2 d_prog_10_method_1_code_20 (Or.inl (tw 112 rfl)) (Or.inl rfl) rfl rfl rfl rfl (Or.inr ⟨tw 113 rfl, rfl, rfl⟩) (fun _ => rfl) (fun _ => rfl) rfl ?_
  try simp only [List.length_cons, List.length_nil, Nat.reduceAdd, Nat.zero_add, List.cons_append, List.nil_append, List.set_cons_zero, List.set_cons_succ, Option.toList]
  refine W.aloadN (pc' := 24) d_prog_10_method_1_code_23 rfl rfl ?_
  refine W.callUp (pc' := 27) d_prog_10_method_1_code_24 (tw 114 rfl) (tw 115 rfl) (tw 116 rfl) (tw 118 rfl) (tw 117 rfl) (tw 83 rfl) (tw 119 rfl) rfl rfl (m_PaneOwner_panes_ hw hst rfl (by simp)) (lenOf pd12 rfl) rfl (by first | rfl | (simp [scS, sc, *]; done) | (simp [scS, sc]; omega)) rfl rfl rfl (by decide) (by decide) (fun v G' hQ => ?_)
  obtain ⟨rfl, rfl⟩ := hQ
  try simp only [List.length_cons, List.length_nil, Nat.reduceAdd, Nat.zero_add, List.cons_append, List.nil_append, List.set_cons_zero, List.set_cons_succ, Option.toList]
  refine W.aloadN (pc' := 28) d_prog_10_method_1_code_27 rfl rfl ?_
  refine W.getfield (pc' := 31) (host := "") 2 d_prog_10_method_1_code_28 (Or.inl (tw 112 rfl)) (Or.inl rfl) rfl rfl rfl rfl ?_
  refine W.callFace (pc' := 36) d_prog_10_method_1_code_31 (tw 120 rfl) (tw 121 rfl) (tw 122 rfl) (tw 123 rfl) (tw 124 rfl) (tw 125 rfl) (tw 126 rfl) (tw 127 rfl) (tw 20 rfl) (tw 128 rfl) rfl rfl (m_ArrayList_add_A_v1 hw hst) (lenOf pd13 rfl) rfl (by first | rfl | (simp [scS, sc, *]; done) | (simp [scS, sc]; omega)) rfl rfl rfl (by decide) (by decide) (fun v G' hQ => ?_)
  obtain ⟨rfl, rfl⟩ := hQ
  try simp only [List.length_cons, List.length_nil, Nat.reduceAdd, Nat.zero_add, List.cons_append, List.nil_append, List.set_cons_zero, List.set_cons_succ, Option.toList]
  refine W.pop (pc' := 37) d_prog_10_method_1_code_36 rfl ?_
  refine W.return_ d_prog_10_method_1_code_37 (by decide) (by decide) ?_
  exact ⟨rfl, rfl⟩
set_option maxRecDepth 65536 in
set_option maxHeartbeats 4000000 in
theorem m_PaneOwner__init__A_v2 {l : Launch} {Z : State} {a0 : Array Value} {n0 : Nat} {oa : Addr} (hw : ∀ d ∈ tables_1, d.before a0 Z = true) (hst : Sta Z Z.heap "java/util/ArrayList" "DEFAULTCAPACITY_EMPTY_ELEMENTDATA" "[Ljava/lang/Object;" (.ref oa)) {rq : Obj} :
    Meth sg l Z n0 [oa] (⟨"com/example/guest_panes/guestpanes/PaneOwner", "<init>", "(Lcom/example/guest_panes/guestpanes/Display;)V"⟩ : MethodName) prog_18_method_1_code 2 none ({ frames := 4, cells := 1, slots := 3, locals := 52 } : Room) [.ref 15, .ref 1] [(.inr (.object "java/lang/Object"), []), (.inl 0, [.ref 3, .ref 2, .int 1, .int 1, .int 0]), (.inl 99, []), (.inl 2, [.int 0, .ref 0, .int 0]), rq, (.inl 4, [.ref 7, .ref 1, .ref 8, .null, .int 0]), (.inl 99, []), (.inl 2, [.int (0 + 1), .ref 9, .int (0 + 1)]), (.inl 5, [.ref 6, .ref 5, .ref 4, .int 0]), (.inr (.object "java/lang/Object"), [.ref 8, .null, .null, .null, .null, .null, .null, .null, .null, .null]), (.inl 4, [.ref 12, .ref 1, .ref 13, .null, .int 0]), (.inl 99, []), (.inl 2, [.int (0 + 1), .ref 14, .int (0 + 1)]), (.inl 5, [.ref 11, .ref 10, .ref 4, .int 0]), (.inr (.object "java/lang/Object"), [.ref 13, .null, .null, .null, .null, .null, .null, .null, .null, .null]), (.inl 4, [.null, .null, .null, .null, .int 0]), (.inl 99, [])] (fun v G' => v = none ∧ G' = [(.inr (.object "java/lang/Object"), []), (.inl 0, [.ref 3, .ref 2, .int 1, .int 1, .int 0]), (.inl 99, []), (.inl 2, [.int 0, .ref 0, .int 0]), rq, (.inl 4, [.ref 7, .ref 1, .ref 8, .null, .int 0]), (.inl 99, []), (.inl 2, [.int (0 + 1), .ref 9, .int (0 + 1)]), (.inl 5, [.ref 6, .ref 5, .ref 4, .int 0]), (.inr (.object "java/lang/Object"), [.ref 8, .null, .null, .null, .null, .null, .null, .null, .null, .null]), (.inl 4, [.ref 12, .ref 1, .ref 13, .null, .int 0]), (.inl 99, []), (.inl 2, [.int (0 + 1), .ref 14, .int (0 + 1)]), (.inl 5, [.ref 11, .ref 10, .ref 4, .int 0]), (.inr (.object "java/lang/Object"), [.ref 13, .null, .null, .null, .null, .null, .null, .null, .null, .null]), (.inl 4, [.ref 17, .ref 1, .null, .null, .int 0]), (.inl 99, []), (.inl 2, [.int 0, .ref 0, .int 0])]) := by
  refine Meth.of (a0 := a0) (tab := tables_1) (Ls := [.val (.ref 15), .val (.ref 1)]) pn_prog_18_method_1_code hw sgOk (fun ad m => ent rfl ad m) ?_
  intro J W
  refine W.aloadN (pc' := 1) d_prog_18_method_1_code_0 rfl rfl ?_
  refine W.initObject (pc' := 4) d_prog_18_method_1_code_1 (tw 85 rfl) (tw 16 rfl) (tw 17 rfl) rfl rfl rfl ?_
  refine W.aloadN (pc' := 5) d_prog_18_method_1_code_4 rfl rfl ?_
  refine W.new (pc' := 8) (vs := [.int 0, .null, .int 0]) 2 d_prog_18_method_1_code_5 rfl (tw 86 rfl) (tw 20 rfl) rfl (by first | rfl | (simp [scS, sc, *]; done) | (simp [scS, sc]; omega)) (by decide) (by decide) ?_
  try simp only [List.length_cons, List.length_nil, Nat.reduceAdd, Nat.zero_add, List.cons_append, List.nil_append, List.set_cons_zero, List.set_cons_succ, Option.toList]
  refine W.dup (pc' := 9) d_prog_18_method_1_code_8 rfl ?_
  refine W.callInit (pc' := 12) d_prog_18_method_1_code_9 (tw 87 rfl) (tw 22 rfl) (tw 20 rfl) (tw 23 rfl) (m_ArrayList__init__ (u := .int 0) (w := .null) (z := .int 0) hw hst rfl rfl) (lenOf pd0 rfl) rfl (by first | rfl | (simp [scS, sc, *]; done) | (simp [scS, sc]; omega)) rfl rfl rfl (by decide) (by decide) (fun v G' hQ => ?_)
  obtain ⟨rfl, rfl⟩ := hQ
  try simp only [List.length_cons, List.length_nil, Nat.reduceAdd, Nat.zero_add, List.cons_append, List.nil_append, List.set_cons_zero, List.set_cons_succ, Option.toList]
  refine W.putfield (pc' := 15) (host := "") 0 d_prog_18_method_1_code_12 (Or.inl (tw 88 rfl)) (Or.inl rfl) rfl rfl rfl rfl (Or.inr ⟨tw 89 rfl, rfl, rfl⟩) (fun _ => rfl) (fun _ => rfl) rfl ?_
  try simp only [List.length_cons, List.length_nil, Nat.reduceAdd, Nat.zero_add, List.cons_append, List.nil_append, List.set_cons_zero, List.set_cons_succ, Option.toList]
  refine W.aloadN (pc' := 16) d_prog_18_method_1_code_15 rfl rfl ?_
  refine W.aloadN (pc' := 17) d_prog_18_method_1_code_16 rfl rfl ?_
  refine W.putfield (pc' := 20) (host := "") 1 d_prog_18_method_1_code_17 (Or.inl (tw 90 rfl)) (Or.inl rfl) rfl rfl rfl rfl (Or.inr ⟨tw 91 rfl, rfl, rfl⟩) (fun _ => rfl) (fun _ => rfl) rfl ?_
  try simp only [List.length_cons, List.length_nil, Nat.reduceAdd, Nat.zero_add, List.cons_append, List.nil_append, List.set_cons_zero, List.set_cons_succ, Option.toList]
  refine W.return_ d_prog_18_method_1_code_20 (by decide) (by decide) ?_
  exact ⟨rfl, rfl⟩
set_option maxRecDepth 65536 in
set_option maxHeartbeats 4000000 in
theorem m_Pane__init__AAAI_v2 {l : Launch} {Z : State} {a0 : Array Value} {n0 : Nat} {oa : Addr} (hw : ∀ d ∈ tables_1, d.before a0 Z = true) (hst : Sta Z Z.heap "java/util/ArrayList" "DEFAULTCAPACITY_EMPTY_ELEMENTDATA" "[Ljava/lang/Object;" (.ref oa)) {rq : Obj} :
    Meth sg l Z n0 [oa] (⟨"com/example/guest_panes/guestpanes/Pane", "<init>", "(Ljava/lang/String;Lcom/example/guest_panes/guestpanes/PaneOwner;Lcom/example/guest_panes/guestpanes/Rect;I)V"⟩ : MethodName) prog_17_method_1_code 5 none ({ frames := 1, cells := 0, slots := 0, locals := 12 } : Room) [.ref 18, .ref 16, .ref 15, .ref 4, .int 0] [(.inr (.object "java/lang/Object"), []), (.inl 0, [.ref 3, .ref 2, .int 1, .int 1, .int 0]), (.inl 99, []), (.inl 2, [.int 0, .ref 0, .int 0]), rq, (.inl 4, [.ref 7, .ref 1, .ref 8, .null, .int 0]), (.inl 99, []), (.inl 2, [.int (0 + 1), .ref 9, .int (0 + 1)]), (.inl 5, [.ref 6, .ref 5, .ref 4, .int 0]), (.inr (.object "java/lang/Object"), [.ref 8, .null, .null, .null, .null, .null, .null, .null, .null, .null]), (.inl 4, [.ref 12, .ref 1, .ref 13, .null, .int 0]), (.inl 99, []), (.inl 2, [.int (0 + 1), .ref 14, .int (0 + 1)]), (.inl 5, [.ref 11, .ref 10, .ref 4, .int 0]), (.inr (.object "java/lang/Object"), [.ref 13, .null, .null, .null, .null, .null, .null, .null, .null, .null]), (.inl 4, [.ref 17, .ref 1, .null, .null, .int 0]), (.inl 99, []), (.inl 2, [.int 0, .ref 0, .int 0]), (.inl 5, [.null, .null, .null, .int 0])] (fun v G' => v = none ∧ G' = [(.inr (.object "java/lang/Object"), []), (.inl 0, [.ref 3, .ref 2, .int 1, .int 1, .int 0]), (.inl 99, []), (.inl 2, [.int 0, .ref 0, .int 0]), rq, (.inl 4, [.ref 7, .ref 1, .ref 8, .null, .int 0]), (.inl 99, []), (.inl 2, [.int (0 + 1), .ref 9, .int (0 + 1)]), (.inl 5, [.ref 6, .ref 5, .ref 4, .int 0]), (.inr (.object "java/lang/Object"), [.ref 8, .null, .null, .null, .null, .null, .null, .null, .null, .null]), (.inl 4, [.ref 12, .ref 1, .ref 13, .null, .int 0]), (.inl 99, []), (.inl 2, [.int (0 + 1), .ref 14, .int (0 + 1)]), (.inl 5, [.ref 11, .ref 10, .ref 4, .int 0]), (.inr (.object "java/lang/Object"), [.ref 13, .null, .null, .null, .null, .null, .null, .null, .null, .null]), (.inl 4, [.ref 17, .ref 1, .null, .null, .int 0]), (.inl 99, []), (.inl 2, [.int 0, .ref 0, .int 0]), (.inl 5, [.ref 16, .ref 15, .ref 4, .int 0])]) := by
  refine Meth.of (a0 := a0) (tab := tables_1) (Ls := [.val (.ref 18), .val (.ref 16), .val (.ref 15), .val (.ref 4), .val (.int 0)]) pn_prog_17_method_1_code hw sgOk (fun ad m => ent rfl ad m) ?_
  intro J W
  refine W.aloadN (pc' := 1) d_prog_17_method_1_code_0 rfl rfl ?_
  refine W.initObject (pc' := 4) d_prog_17_method_1_code_1 (tw 103 rfl) (tw 16 rfl) (tw 17 rfl) rfl rfl rfl ?_
  refine W.aloadN (pc' := 5) d_prog_17_method_1_code_4 rfl rfl ?_
  refine W.aloadN (pc' := 6) d_prog_17_method_1_code_5 rfl rfl ?_
  refine W.putfield (pc' := 9) (host := "") 0 d_prog_17_method_1_code_6 (Or.inl (tw 104 rfl)) (Or.inl rfl) rfl rfl rfl rfl (Or.inr ⟨tw 105 rfl, rfl, rfl⟩) (fun _ => rfl) (fun _ => rfl) rfl ?_
  try simp only [List.length_cons, List.length_nil, Nat.reduceAdd, Nat.zero_add, List.cons_append, List.nil_append, List.set_cons_zero, List.set_cons_succ, Option.toList]
  refine W.aloadN (pc' := 10) d_prog_17_method_1_code_9 rfl rfl ?_
  refine W.aloadN (pc' := 11) d_prog_17_method_1_code_10 rfl rfl ?_
  refine W.putfield (pc' := 14) (host := "") 1 d_prog_17_method_1_code_11 (Or.inl (tw 106 rfl)) (Or.inl rfl) rfl rfl rfl rfl (Or.inr ⟨tw 107 rfl, rfl, rfl⟩) (fun _ => rfl) (fun _ => rfl) rfl ?_
  try simp only [List.length_cons, List.length_nil, Nat.reduceAdd, Nat.zero_add, List.cons_append, List.nil_append, List.set_cons_zero, List.set_cons_succ, Option.toList]
  refine W.aloadN (pc' := 15) d_prog_17_method_1_code_14 rfl rfl ?_
  refine W.aloadN (pc' := 16) d_prog_17_method_1_code_15 rfl rfl ?_
  refine W.putfield (pc' := 19) (host := "") 2 d_prog_17_method_1_code_16 (Or.inl (tw 108 rfl)) (Or.inl rfl) rfl rfl rfl rfl (Or.inl (tw 109 rfl)) (fun _ => rfl) (fun _ => rfl) rfl ?_
  try simp only [List.length_cons, List.length_nil, Nat.reduceAdd, Nat.zero_add, List.cons_append, List.nil_append, List.set_cons_zero, List.set_cons_succ, Option.toList]
  refine W.aloadN (pc' := 20) d_prog_17_method_1_code_19 rfl rfl ?_
  refine W.iload (pc' := 22) d_prog_17_method_1_code_20 rfl ?_
  refine W.putfield (pc' := 25) (host := "") 3 d_prog_17_method_1_code_22 (Or.inl (tw 110 rfl)) (Or.inl rfl) rfl rfl rfl rfl (Or.inr ⟨tw 111 rfl, rfl, rfl⟩) (fun _ => rfl) (fun _ => rfl) rfl ?_
  try simp only [List.length_cons, List.length_nil, Nat.reduceAdd, Nat.zero_add, List.cons_append, List.nil_append, List.set_cons_zero, List.set_cons_succ, Option.toList]
  refine W.return_ d_prog_17_method_1_code_25 (by decide) (by decide) ?_
  exact ⟨rfl, rfl⟩
set_option maxRecDepth 65536 in
set_option maxHeartbeats 4000000 in
theorem m_ArrayList_grow_I_v2 {l : Launch} {Z : State} {a0 : Array Value} {n0 : Nat} {oa : Addr} (hw : ∀ d ∈ tables_1, d.before a0 Z = true) (hst : Sta Z Z.heap "java/util/ArrayList" "DEFAULTCAPACITY_EMPTY_ELEMENTDATA" "[Ljava/lang/Object;" (.ref oa)) {rq : Obj} :
    Meth sg l Z n0 [oa] (⟨"java/util/ArrayList", "grow", "(I)[Ljava/lang/Object;"⟩ : MethodName) jdk_38_method_6_code 4 (some (.array (.object "java/lang/Object"))) ({ frames := 1, cells := 1, slots := 10, locals := 16 } : Room) [.ref 17, .int (0 + 1)] [(.inr (.object "java/lang/Object"), []), (.inl 0, [.ref 3, .ref 2, .int 1, .int 1, .int 0]), (.inl 99, []), (.inl 2, [.int 0, .ref 0, .int 0]), rq, (.inl 4, [.ref 7, .ref 1, .ref 8, .null, .int 0]), (.inl 99, []), (.inl 2, [.int (0 + 1), .ref 9, .int (0 + 1)]), (.inl 5, [.ref 6, .ref 5, .ref 4, .int 0]), (.inr (.object "java/lang/Object"), [.ref 8, .null, .null, .null, .null, .null, .null, .null, .null, .null]), (.inl 4, [.ref 12, .ref 1, .ref 13, .null, .int 0]), (.inl 99, []), (.inl 2, [.int (0 + 1), .ref 14, .int (0 + 1)]), (.inl 5, [.ref 11, .ref 10, .ref 4, .int 0]), (.inr (.object "java/lang/Object"), [.ref 13, .null, .null, .null, .null, .null, .null, .null, .null, .null]), (.inl 4, [.ref 17, .ref 1, .ref 18, .null, .int 0]), (.inl 99, []), (.inl 2, [.int (0 + 1), .ref 0, .int 0]), (.inl 5, [.ref 16, .ref 15, .ref 4, .int 0])] (fun v G' => v = some (.ref 19) ∧ G' = [(.inr (.object "java/lang/Object"), []), (.inl 0, [.ref 3, .ref 2, .int 1, .int 1, .int 0]), (.inl 99, []), (.inl 2, [.int 0, .ref 0, .int 0]), rq, (.inl 4, [.ref 7, .ref 1, .ref 8, .null, .int 0]), (.inl 99, []), (.inl 2, [.int (0 + 1), .ref 9, .int (0 + 1)]), (.inl 5, [.ref 6, .ref 5, .ref 4, .int 0]), (.inr (.object "java/lang/Object"), [.ref 8, .null, .null, .null, .null, .null, .null, .null, .null, .null]), (.inl 4, [.ref 12, .ref 1, .ref 13, .null, .int 0]), (.inl 99, []), (.inl 2, [.int (0 + 1), .ref 14, .int (0 + 1)]), (.inl 5, [.ref 11, .ref 10, .ref 4, .int 0]), (.inr (.object "java/lang/Object"), [.ref 13, .null, .null, .null, .null, .null, .null, .null, .null, .null]), (.inl 4, [.ref 17, .ref 1, .ref 18, .null, .int 0]), (.inl 99, []), (.inl 2, [.int (0 + 1), .ref 19, .int 0]), (.inl 5, [.ref 16, .ref 15, .ref 4, .int 0]), (.inr (.object "java/lang/Object"), [.null, .null, .null, .null, .null, .null, .null, .null, .null, .null])]) := by
  refine Meth.of (a0 := a0) (tab := tables_1) (Ls := [.val (.ref 17), .val (.int (0 + 1)), .unset, .unset]) pn_jdk_38_method_6_code hw sgOk (fun ad m => ent rfl ad m) ?_
  intro J W
  refine W.aloadN (pc' := 1) d_jdk_38_method_6_code_0 rfl rfl ?_
  refine W.getfield (pc' := 4) (host := "") 1 d_jdk_38_method_6_code_1 (Or.inl (tw 40 rfl)) (Or.inl rfl) rfl rfl rfl rfl ?_
  refine W.arraylength (pc' := 5) (0) d_jdk_38_method_6_code_4 rfl rfl ?_
  refine W.istoreN (pc' := 6) (i' := 2) d_jdk_38_method_6_code_5 rfl ?_
  try simp only [List.length_cons, List.length_nil, Nat.reduceAdd, Nat.zero_add, List.cons_append, List.nil_append, List.set_cons_zero, List.set_cons_succ, Option.toList]
  refine W.iloadN (pc' := 7) d_jdk_38_method_6_code_6 rfl ?_
  refine W.if_gt (pc' := 20) (pc2 := 10) d_jdk_38_method_6_code_7 (fun hz_ => absurd hz_ (by decide)) (fun _ => ?_)
  refine W.aloadN (pc' := 11) d_jdk_38_method_6_code_10 rfl rfl ?_
  refine W.getfield (pc' := 14) (host := "") 1 d_jdk_38_method_6_code_11 (Or.inl (tw 40 rfl)) (Or.inl rfl) rfl rfl rfl rfl ?_
  refine W.getstatic (j := 0) (pc' := 17) d_jdk_38_method_6_code_14 (tw 39 rfl) rfl hst ?_
  refine W.acmp_eq_t (pc' := 45) d_jdk_38_method_6_code_17 rfl rfl (rfl) ?_
  refine W.aloadN (pc' := 46) d_jdk_38_method_6_code_45 rfl rfl ?_
  refine W.bipush (pc' := 48) (10) d_jdk_38_method_6_code_46 rfl ?_
  refine W.iloadN (pc' := 49) d_jdk_38_method_6_code_48 rfl ?_
  refine W.callStatic (pc' := 52) d_jdk_38_method_6_code_49 (tw 148 rfl) (tw 149 rfl) (tw 150 rfl) (tw 151 rfl) (m_Math_max_II hw hst) (lenOf pd1 rfl) rfl (by first | rfl | (simp [scS, sc, *]; done) | (simp [scS, sc]; omega)) rfl rfl rfl (by decide) (by decide) (fun v G' hQ => ?_)
  obtain ⟨rfl, rfl⟩ := hQ
  try simp only [List.length_cons, List.length_nil, Nat.reduceAdd, Nat.zero_add, List.cons_append, List.nil_append, List.set_cons_zero, List.set_cons_succ, Option.toList]
  refine W.anewarray (pc' := 55) (vs := [.null, .null, .null, .null, .null, .null, .null, .null, .null, .null]) 10 d_jdk_38_method_6_code_52 (tw 152 rfl) (tw 153 rfl) (by decide) rfl (by decide) (by first | rfl | (simp [scS, sc, *]; done) | (simp [scS, sc]; omega)) (by decide) (by decide) ?_
  try simp only [List.length_cons, List.length_nil, Nat.reduceAdd, Nat.zero_add, List.cons_append, List.nil_append, List.set_cons_zero, List.set_cons_succ, Option.toList]
  refine W.dupX1 (pc' := 56) d_jdk_38_method_6_code_55 rfl rfl ?_
  refine W.putfield (pc' := 59) (host := "") 1 d_jdk_38_method_6_code_56 (Or.inl (tw 40 rfl)) (Or.inl rfl) rfl rfl rfl rfl (Or.inl (tw 41 rfl)) (fun _ => rfl) (fun _ => rfl) rfl ?_
  try simp only [List.length_cons, List.length_nil, Nat.reduceAdd, Nat.zero_add, List.cons_append, List.nil_append, List.set_cons_zero, List.set_cons_succ, Option.toList]
  refine W.areturn d_jdk_38_method_6_code_59 rfl rfl (by first | rfl | (simp [scS, sc, *]; done) | (simp [scS, sc]; omega)) (by decide) (by decide) ?_
  exact ⟨rfl, rfl⟩
set_option maxRecDepth 65536 in
set_option maxHeartbeats 4000000 in
theorem m_ArrayList_grow__v2 {l : Launch} {Z : State} {a0 : Array Value} {n0 : Nat} {oa : Addr} (hw : ∀ d ∈ tables_1, d.before a0 Z = true) (hst : Sta Z Z.heap "java/util/ArrayList" "DEFAULTCAPACITY_EMPTY_ELEMENTDATA" "[Ljava/lang/Object;" (.ref oa)) {rq : Obj} :
    Meth sg l Z n0 [oa] (⟨"java/util/ArrayList", "grow", "()[Ljava/lang/Object;"⟩ : MethodName) jdk_38_method_7_code 1 (some (.array (.object "java/lang/Object"))) ({ frames := 2, cells := 1, slots := 10, locals := 32 } : Room) [.ref 17] [(.inr (.object "java/lang/Object"), []), (.inl 0, [.ref 3, .ref 2, .int 1, .int 1, .int 0]), (.inl 99, []), (.inl 2, [.int 0, .ref 0, .int 0]), rq, (.inl 4, [.ref 7, .ref 1, .ref 8, .null, .int 0]), (.inl 99, []), (.inl 2, [.int (0 + 1), .ref 9, .int (0 + 1)]), (.inl 5, [.ref 6, .ref 5, .ref 4, .int 0]), (.inr (.object "java/lang/Object"), [.ref 8, .null, .null, .null, .null, .null, .null, .null, .null, .null]), (.inl 4, [.ref 12, .ref 1, .ref 13, .null, .int 0]), (.inl 99, []), (.inl 2, [.int (0 + 1), .ref 14, .int (0 + 1)]), (.inl 5, [.ref 11, .ref 10, .ref 4, .int 0]), (.inr (.object "java/lang/Object"), [.ref 13, .null, .null, .null, .null, .null, .null, .null, .null, .null]), (.inl 4, [.ref 17, .ref 1, .ref 18, .null, .int 0]), (.inl 99, []), (.inl 2, [.int (0 + 1), .ref 0, .int 0]), (.inl 5, [.ref 16, .ref 15, .ref 4, .int 0])] (fun v G' => v = some (.ref 19) ∧ G' = [(.inr (.object "java/lang/Object"), []), (.inl 0, [.ref 3, .ref 2, .int 1, .int 1, .int 0]), (.inl 99, []), (.inl 2, [.int 0, .ref 0, .int 0]), rq, (.inl 4, [.ref 7, .ref 1, .ref 8, .null, .int 0]), (.inl 99, []), (.inl 2, [.int (0 + 1), .ref 9, .int (0 + 1)]), (.inl 5, [.ref 6, .ref 5, .ref 4, .int 0]), (.inr (.object "java/lang/Object"), [.ref 8, .null, .null, .null, .null, .null, .null, .null, .null, .null]), (.inl 4, [.ref 12, .ref 1, .ref 13, .null, .int 0]), (.inl 99, []), (.inl 2, [.int (0 + 1), .ref 14, .int (0 + 1)]), (.inl 5, [.ref 11, .ref 10, .ref 4, .int 0]), (.inr (.object "java/lang/Object"), [.ref 13, .null, .null, .null, .null, .null, .null, .null, .null, .null]), (.inl 4, [.ref 17, .ref 1, .ref 18, .null, .int 0]), (.inl 99, []), (.inl 2, [.int (0 + 1), .ref 19, .int 0]), (.inl 5, [.ref 16, .ref 15, .ref 4, .int 0]), (.inr (.object "java/lang/Object"), [.null, .null, .null, .null, .null, .null, .null, .null, .null, .null])]) := by
  refine Meth.of (a0 := a0) (tab := tables_1) (Ls := [.val (.ref 17)]) pn_jdk_38_method_7_code hw sgOk (fun ad m => ent rfl ad m) ?_
  intro J W
  refine W.aloadN (pc' := 1) d_jdk_38_method_7_code_0 rfl rfl ?_
  refine W.aloadN (pc' := 2) d_jdk_38_method_7_code_1 rfl rfl ?_
  refine W.getfield (pc' := 5) (host := "") 2 d_jdk_38_method_7_code_2 (Or.inl (tw 131 rfl)) (Or.inl rfl) rfl rfl rfl rfl ?_
  refine W.iconst (pc' := 6) (1) d_jdk_38_method_7_code_5 rfl ?_
  refine W.iadd (pc' := 7) d_jdk_38_method_7_code_6 ?_
  refine W.callPrivate (pc' := 10) d_jdk_38_method_7_code_7 (tw 143 rfl) (tw 144 rfl) (tw 145 rfl) (tw 20 rfl) (tw 147 rfl) rfl rfl rfl (m_ArrayList_grow_I_v2 hw hst) (lenOf pd7 rfl) rfl (by first | rfl | (simp [scS, sc, *]; done) | (simp [scS, sc]; omega)) rfl rfl rfl (by decide) (by decide) (fun v G' hQ => ?_)
  obtain ⟨rfl, rfl⟩ := hQ
  try simp only [List.length_cons, List.length_nil, Nat.reduceAdd, Nat.zero_add, List.cons_append, List.nil_append, List.set_cons_zero, List.set_cons_succ, Option.toList]
  refine W.areturn d_jdk_38_method_7_code_10 rfl rfl (by first | rfl | (simp [scS, sc, *]; done) | (simp [scS, sc]; omega)) (by decide) (by decide) ?_
  exact ⟨rfl, rfl⟩
set_option maxRecDepth 65536 in
set_option maxHeartbeats 4000000 in
theorem m_ArrayList_add_AAI_v2 {l : Launch} {Z : State} {a0 : Array Value} {n0 : Nat} {oa : Addr} (hw : ∀ d ∈ tables_1, d.before a0 Z = true) (hst : Sta Z Z.heap "java/util/ArrayList" "DEFAULTCAPACITY_EMPTY_ELEMENTDATA" "[Ljava/lang/Object;" (.ref oa)) {rq : Obj} :
    Meth sg l Z n0 [oa] (⟨"java/util/ArrayList", "add", "(Ljava/lang/Object;[Ljava/lang/Object;I)V"⟩ : MethodName) jdk_38_method_24_code 4 none ({ frames := 3, cells := 1, slots := 10, locals := 46 } : Room) [.ref 17, .ref 18, .ref 0, .int 0] [(.inr (.object "java/lang/Object"), []), (.inl 0, [.ref 3, .ref 2, .int 1, .int 1, .int 0]), (.inl 99, []), (.inl 2, [.int 0, .ref 0, .int 0]), rq, (.inl 4, [.ref 7, .ref 1, .ref 8, .null, .int 0]), (.inl 99, []), (.inl 2, [.int (0 + 1), .ref 9, .int (0 + 1)]), (.inl 5, [.ref 6, .ref 5, .ref 4, .int 0]), (.inr (.object "java/lang/Object"), [.ref 8, .null, .null, .null, .null, .null, .null, .null, .null, .null]), (.inl 4, [.ref 12, .ref 1, .ref 13, .null, .int 0]), (.inl 99, []), (.inl 2, [.int (0 + 1), .ref 14, .int (0 + 1)]), (.inl 5, [.ref 11, .ref 10, .ref 4, .int 0]), (.inr (.object "java/lang/Object"), [.ref 13, .null, .null, .null, .null, .null, .null, .null, .null, .null]), (.inl 4, [.ref 17, .ref 1, .ref 18, .null, .int 0]), (.inl 99, []), (.inl 2, [.int (0 + 1), .ref 0, .int 0]), (.inl 5, [.ref 16, .ref 15, .ref 4, .int 0])] (fun v G' => v = none ∧ G' = [(.inr (.object "java/lang/Object"), []), (.inl 0, [.ref 3, .ref 2, .int 1, .int 1, .int 0]), (.inl 99, []), (.inl 2, [.int 0, .ref 0, .int 0]), rq, (.inl 4, [.ref 7, .ref 1, .ref 8, .null, .int 0]), (.inl 99, []), (.inl 2, [.int (0 + 1), .ref 9, .int (0 + 1)]), (.inl 5, [.ref 6, .ref 5, .ref 4, .int 0]), (.inr (.object "java/lang/Object"), [.ref 8, .null, .null, .null, .null, .null, .null, .null, .null, .null]), (.inl 4, [.ref 12, .ref 1, .ref 13, .null, .int 0]), (.inl 99, []), (.inl 2, [.int (0 + 1), .ref 14, .int (0 + 1)]), (.inl 5, [.ref 11, .ref 10, .ref 4, .int 0]), (.inr (.object "java/lang/Object"), [.ref 13, .null, .null, .null, .null, .null, .null, .null, .null, .null]), (.inl 4, [.ref 17, .ref 1, .ref 18, .null, .int 0]), (.inl 99, []), (.inl 2, [.int (0 + 1), .ref 19, .int (0 + 1)]), (.inl 5, [.ref 16, .ref 15, .ref 4, .int 0]), (.inr (.object "java/lang/Object"), [.ref 18, .null, .null, .null, .null, .null, .null, .null, .null, .null])]) := by
  refine Meth.of (a0 := a0) (tab := tables_1) (Ls := [.val (.ref 17), .val (.ref 18), .val (.ref 0), .val (.int 0)]) pn_jdk_38_method_24_code hw sgOk (fun ad m => ent rfl ad m) ?_
  intro J W
  refine W.iloadN (pc' := 1) d_jdk_38_method_24_code_0 rfl ?_
  refine W.aloadN (pc' := 2) d_jdk_38_method_24_code_1 rfl rfl ?_
  refine W.arraylength (pc' := 3) (0) d_jdk_38_method_24_code_2 rfl rfl ?_
  refine W.icmp_ne (pc' := 11) (pc2 := 6) d_jdk_38_method_24_code_3 (fun _ => ?_) (fun hz_ => absurd (rfl) hz_)
  refine W.aloadN (pc' := 7) d_jdk_38_method_24_code_6 rfl rfl ?_
  refine W.callPrivate (pc' := 10) d_jdk_38_method_24_code_7 (tw 138 rfl) (tw 139 rfl) (tw 140 rfl) (tw 20 rfl) (tw 142 rfl) rfl rfl rfl (m_ArrayList_grow__v2 hw hst) (lenOf pd8 rfl) rfl (by first | rfl | (simp [scS, sc, *]; done) | (simp [scS, sc]; omega)) rfl rfl rfl (by decide) (by decide) (fun v G' hQ => ?_)
  obtain ⟨rfl, rfl⟩ := hQ
  try simp only [List.length_cons, List.length_nil, Nat.reduceAdd, Nat.zero_add, List.cons_append, List.nil_append, List.set_cons_zero, List.set_cons_succ, Option.toList]
  refine W.astoreN (pc' := 11) (i' := 2) d_jdk_38_method_24_code_10 rfl rfl ?_
  try simp only [List.length_cons, List.length_nil, Nat.reduceAdd, Nat.zero_add, List.cons_append, List.nil_append, List.set_cons_zero, List.set_cons_succ, Option.toList]
  refine W.aloadN (pc' := 12) d_jdk_38_method_24_code_11 rfl rfl ?_
  refine W.iloadN (pc' := 13) d_jdk_38_method_24_code_12 rfl ?_
  refine W.aloadN (pc' := 14) d_jdk_38_method_24_code_13 rfl rfl ?_
  refine W.aastore (pc' := 15) 0 d_jdk_38_method_24_code_14 rfl rfl (by decide) (by decide) rfl rfl (tw 154 rfl) ?_
  try simp only [List.length_cons, List.length_nil, Nat.reduceAdd, Nat.zero_add, List.cons_append, List.nil_append, List.set_cons_zero, List.set_cons_succ, Option.toList]
  refine W.aloadN (pc' := 16) d_jdk_38_method_24_code_15 rfl rfl ?_
  refine W.iloadN (pc' := 17) d_jdk_38_method_24_code_16 rfl ?_
  refine W.iconst (pc' := 18) (1) d_jdk_38_method_24_code_17 rfl ?_
  refine W.iadd (pc' := 19) d_jdk_38_method_24_code_18 ?_
  refine W.putfield (pc' := 22) (host := "") 2 d_jdk_38_method_24_code_19 (Or.inl (tw 131 rfl)) (Or.inl rfl) rfl rfl rfl rfl (Or.inl (tw 132 rfl)) (fun _ => rfl) (fun _ => rfl) rfl ?_
  try simp only [List.length_cons, List.length_nil, Nat.reduceAdd, Nat.zero_add, List.cons_append, List.nil_append, List.set_cons_zero, List.set_cons_succ, Option.toList]
  refine W.return_ d_jdk_38_method_24_code_22 (by decide) (by decide) ?_
  exact ⟨rfl, rfl⟩
set_option maxRecDepth 65536 in
set_option maxHeartbeats 4000000 in
theorem m_ArrayList_add_A_v2 {l : Launch} {Z : State} {a0 : Array Value} {n0 : Nat} {oa : Addr} (hw : ∀ d ∈ tables_1, d.before a0 Z = true) (hst : Sta Z Z.heap "java/util/ArrayList" "DEFAULTCAPACITY_EMPTY_ELEMENTDATA" "[Ljava/lang/Object;" (.ref oa)) {rq : Obj} :
    Meth sg l Z n0 [oa] (⟨"java/util/ArrayList", "add", "(Ljava/lang/Object;)Z"⟩ : MethodName) jdk_38_method_25_code 2 (some .boolean) ({ frames := 4, cells := 1, slots := 10, locals := 62 } : Room) [.ref 17, .ref 18] [(.inr (.object "java/lang/Object"), []), (.inl 0, [.ref 3, .ref 2, .int 1, .int 1, .int 0]), (.inl 99, []), (.inl 2, [.int 0, .ref 0, .int 0]), rq, (.inl 4, [.ref 7, .ref 1, .ref 8, .null, .int 0]), (.inl 99, []), (.inl 2, [.int (0 + 1), .ref 9, .int (0 + 1)]), (.inl 5, [.ref 6, .ref 5, .ref 4, .int 0]), (.inr (.object "java/lang/Object"), [.ref 8, .null, .null, .null, .null, .null, .null, .null, .null, .null]), (.inl 4, [.ref 12, .ref 1, .ref 13, .null, .int 0]), (.inl 99, []), (.inl 2, [.int (0 + 1), .ref 14, .int (0 + 1)]), (.inl 5, [.ref 11, .ref 10, .ref 4, .int 0]), (.inr (.object "java/lang/Object"), [.ref 13, .null, .null, .null, .null, .null, .null, .null, .null, .null]), (.inl 4, [.ref 17, .ref 1, .ref 18, .null, .int 0]), (.inl 99, []), (.inl 2, [.int 0, .ref 0, .int 0]), (.inl 5, [.ref 16, .ref 15, .ref 4, .int 0])] (fun v G' => v = some (.int 1) ∧ G' = [(.inr (.object "java/lang/Object"), []), (.inl 0, [.ref 3, .ref 2, .int 1, .int 1, .int 0]), (.inl 99, []), (.inl 2, [.int 0, .ref 0, .int 0]), rq, (.inl 4, [.ref 7, .ref 1, .ref 8, .null, .int 0]), (.inl 99, []), (.inl 2, [.int (0 + 1), .ref 9, .int (0 + 1)]), (.inl 5, [.ref 6, .ref 5, .ref 4, .int 0]), (.inr (.object "java/lang/Object"), [.ref 8, .null, .null, .null, .null, .null, .null, .null, .null, .null]), (.inl 4, [.ref 12, .ref 1, .ref 13, .null, .int 0]), (.inl 99, []), (.inl 2, [.int (0 + 1), .ref 14, .int (0 + 1)]), (.inl 5, [.ref 11, .ref 10, .ref 4, .int 0]), (.inr (.object "java/lang/Object"), [.ref 13, .null, .null, .null, .null, .null, .null, .null, .null, .null]), (.inl 4, [.ref 17, .ref 1, .ref 18, .null, .int 0]), (.inl 99, []), (.inl 2, [.int (0 + 1), .ref 19, .int (0 + 1)]), (.inl 5, [.ref 16, .ref 15, .ref 4, .int 0]), (.inr (.object "java/lang/Object"), [.ref 18, .null, .null, .null, .null, .null, .null, .null, .null, .null])]) := by
  refine Meth.of (a0 := a0) (tab := tables_1) (Ls := [.val (.ref 17), .val (.ref 18)]) pn_jdk_38_method_25_code hw sgOk (fun ad m => ent rfl ad m) ?_
  intro J W
  refine W.aloadN (pc' := 1) d_jdk_38_method_25_code_0 rfl rfl ?_
  refine W.dup (pc' := 2) d_jdk_38_method_25_code_1 rfl ?_
  refine W.getfield (pc' := 5) (host := "") 0 d_jdk_38_method_25_code_2 (Or.inl (tw 129 rfl)) (Or.inr (tw 130 rfl)) rfl rfl rfl rfl ?_
  refine W.iconst (pc' := 6) (1) d_jdk_38_method_25_code_5 rfl ?_
  refine W.iadd (pc' := 7) d_jdk_38_method_25_code_6 ?_
  refine W.putfield (pc' := 10) (host := "") 0 d_jdk_38_method_25_code_7 (Or.inl (tw 129 rfl)) (Or.inr (tw 130 rfl)) rfl rfl rfl rfl (Or.inl (tw 38 rfl)) (fun _ => rfl) (fun _ => rfl) rfl ?_
  try simp only [List.length_cons, List.length_nil, Nat.reduceAdd, Nat.zero_add, List.cons_append, List.nil_append, List.set_cons_zero, List.set_cons_succ, Option.toList]
  refine W.aloadN (pc' := 11) d_jdk_38_method_25_code_10 rfl rfl ?_
  refine W.aloadN (pc' := 12) d_jdk_38_method_25_code_11 rfl rfl ?_
  refine W.aloadN (pc' := 13) d_jdk_38_method_25_code_12 rfl rfl ?_
  refine W.getfield (pc' := 16) (host := "") 1 d_jdk_38_method_25_code_13 (Or.inl (tw 40 rfl)) (Or.inl rfl) rfl rfl rfl rfl ?_
  refine W.aloadN (pc' := 17) d_jdk_38_method_25_code_16 rfl rfl ?_
  refine W.getfield (pc' := 20) (host := "") 2 d_jdk_38_method_25_code_17 (Or.inl (tw 131 rfl)) (Or.inl rfl) rfl rfl rfl rfl ?_
  refine W.callPrivate (pc' := 23) d_jdk_38_method_25_code_20 (tw 133 rfl) (tw 134 rfl) (tw 135 rfl) (tw 20 rfl) (tw 137 rfl) rfl rfl rfl (m_ArrayList_add_AAI_v2 hw hst) (lenOf pd9 rfl) rfl (by first | rfl | (simp [scS, sc, *]; done) | (simp [scS, sc]; omega)) rfl rfl rfl (by decide) (by decide) (fun v G' hQ => ?_)
  obtain ⟨rfl, rfl⟩ := hQ
  try simp only [List.length_cons, List.length_nil, Nat.reduceAdd, Nat.zero_add, List.cons_append, List.nil_append, List.set_cons_zero, List.set_cons_succ, Option.toList]
  refine W.iconst (pc' := 24) (1) d_jdk_38_method_25_code_23 rfl ?_
  refine W.zreturn d_jdk_38_method_25_code_24 (by decide) (by decide) (by decide) ?_
  exact ⟨rfl, rfl⟩
set_option maxRecDepth 65536 in
set_option maxHeartbeats 4000000 in
theorem m_FreeWindow__init__AAA_v2 {l : Launch} {Z : State} {a0 : Array Value} {n0 : Nat} {oa : Addr} (hw : ∀ d ∈ tables_1, d.before a0 Z = true) (hst : Sta Z Z.heap "java/util/ArrayList" "DEFAULTCAPACITY_EMPTY_ELEMENTDATA" "[Ljava/lang/Object;" (.ref oa)) {rq : Obj} :
    Meth sg l Z n0 [oa] (⟨"com/example/guest_panes/guestpanes/FreeWindow", "<init>", "(Ljava/lang/String;Lcom/example/guest_panes/guestpanes/Display;Lcom/example/guest_panes/guestpanes/Rect;)V"⟩ : MethodName) prog_10_method_1_code 4 none ({ frames := 5, cells := 3, slots := 21, locals := 80 } : Room) [.ref 15, .ref 16, .ref 1, .ref 4] [(.inr (.object "java/lang/Object"), []), (.inl 0, [.ref 3, .ref 2, .int 1, .int 1, .int 0]), (.inl 99, []), (.inl 2, [.int 0, .ref 0, .int 0]), rq, (.inl 4, [.ref 7, .ref 1, .ref 8, .null, .int 0]), (.inl 99, []), (.inl 2, [.int (0 + 1), .ref 9, .int (0 + 1)]), (.inl 5, [.ref 6, .ref 5, .ref 4, .int 0]), (.inr (.object "java/lang/Object"), [.ref 8, .null, .null, .null, .null, .null, .null, .null, .null, .null]), (.inl 4, [.ref 12, .ref 1, .ref 13, .null, .int 0]), (.inl 99, []), (.inl 2, [.int (0 + 1), .ref 14, .int (0 + 1)]), (.inl 5, [.ref 11, .ref 10, .ref 4, .int 0]), (.inr (.object "java/lang/Object"), [.ref 13, .null, .null, .null, .null, .null, .null, .null, .null, .null]), (.inl 4, [.null, .null, .null, .null, .int 0]), (.inl 99, [])] (fun v G' => v = none ∧ G' = [(.inr (.object "java/lang/Object"), []), (.inl 0, [.ref 3, .ref 2, .int 1, .int 1, .int 0]), (.inl 99, []), (.inl 2, [.int 0, .ref 0, .int 0]), rq, (.inl 4, [.ref 7, .ref 1, .ref 8, .null, .int 0]), (.inl 99, []), (.inl 2, [.int (0 + 1), .ref 9, .int (0 + 1)]), (.inl 5, [.ref 6, .ref 5, .ref 4, .int 0]), (.inr (.object "java/lang/Object"), [.ref 8, .null, .null, .null, .null, .null, .null, .null, .null, .null]), (.inl 4, [.ref 12, .ref 1, .ref 13, .null, .int 0]), (.inl 99, []), (.inl 2, [.int (0 + 1), .ref 14, .int (0 + 1)]), (.inl 5, [.ref 11, .ref 10, .ref 4, .int 0]), (.inr (.object "java/lang/Object"), [.ref 13, .null, .null, .null, .null, .null, .null, .null, .null, .null]), (.inl 4, [.ref 17, .ref 1, .ref 18, .null, .int 0]), (.inl 99, []), (.inl 2, [.int (0 + 1), .ref 19, .int (0 + 1)]), (.inl 5, [.ref 16, .ref 15, .ref 4, .int 0]), (.inr (.object "java/lang/Object"), [.ref 18, .null, .null, .null, .null, .null, .null, .null, .null, .null])]) := by
  refine Meth.of (a0 := a0) (tab := tables_1) (Ls := [.val (.ref 15), .val (.ref 16), .val (.ref 1), .val (.ref 4)]) pn_prog_10_method_1_code hw sgOk (fun ad m => ent rfl ad m) ?_
  intro J W
  refine W.aloadN (pc' := 1) d_prog_10_method_1_code_0 rfl rfl ?_
  refine W.aloadN (pc' := 2) d_prog_10_method_1_code_1 rfl rfl ?_
  refine W.callInit (pc' := 5) d_prog_10_method_1_code_2 (tw 80 rfl) (tw 81 rfl) (tw 83 rfl) (tw 84 rfl) (m_PaneOwner__init__A_v2 hw hst) (lenOf pd10 rfl) rfl (by first | rfl | (simp [scS, sc, *]; done) | (simp [scS, sc]; omega)) rfl rfl rfl (by decide) (by decide) (fun v G' hQ => ?_)
  obtain ⟨rfl, rfl⟩ := hQ
  try simp only [List.length_cons, List.length_nil, Nat.reduceAdd, Nat.zero_add, List.cons_append, List.nil_append, List.set_cons_zero, List.set_cons_succ, Option.toList]
  refine W.aloadN (pc' := 6) d_prog_10_method_1_code_5 rfl rfl ?_
  refine W.new (pc' := 9) (vs := [.null, .null, .null, .int 0]) 5 d_prog_10_method_1_code_6 rfl (tw 92 rfl) (tw 94 rfl) rfl (by first | rfl | (simp [scS, sc, *]; done) | (simp [scS, sc]; omega)) (by decide) (by decide) ?_
  try simp only [List.length_cons, List.length_nil, Nat.reduceAdd, Nat.zero_add, List.cons_append, List.nil_append, List.set_cons_zero, List.set_cons_succ, Option.toList]
  refine W.dup (pc' := 10) d_prog_10_method_1_code_9 rfl ?_
  refine W.aloadN (pc' := 11) d_prog_10_method_1_code_10 rfl rfl ?_
  refine W.aloadN (pc' := 12) d_prog_10_method_1_code_11 rfl rfl ?_
  refine W.aloadN (pc' := 13) d_prog_10_method_1_code_12 rfl rfl ?_
  refine W.aloadN (pc' := 14) d_prog_10_method_1_code_13 rfl rfl ?_
  refine W.callVirtual (pc' := 17) d_prog_10_method_1_code_14 (tw 95 rfl) (tw 96 rfl) (tw 98 rfl) (tw 97 rfl) (tw 3 rfl) (tw 99 rfl) rfl rfl (m_Display_color_ hw hst rfl) (lenOf pd3 rfl) rfl (by first | rfl | (simp [scS, sc, *]; done) | (simp [scS, sc]; omega)) rfl rfl rfl (by decide) (by decide) (fun v G' hQ => ?_)
  obtain ⟨rfl, rfl⟩ := hQ
  try simp only [List.length_cons, List.length_nil, Nat.reduceAdd, Nat.zero_add, List.cons_append, List.nil_append, List.set_cons_zero, List.set_cons_succ, Option.toList]
  refine W.callInit (pc' := 20) d_prog_10_method_1_code_17 (tw 100 rfl) (tw 101 rfl) (tw 94 rfl) (tw 102 rfl) (m_Pane__init__AAAI_v2 hw hst) (lenOf pd11 rfl) rfl (by first | rfl | (simp [scS, sc, *]; done) | (simp [scS, sc]; omega)) rfl rfl rfl (by decide) (by decide) (fun v G' hQ => ?_)
  obtain ⟨rfl, rfl⟩ := hQ
  try simp only [List.length_cons, List.length_nil, Nat.reduceAdd, Nat.zero_add, List.cons_append, List.nil_append, List.set_cons_zero, List.set_cons_succ, Option.toList]
  refine W.putfield (pc' := 23) (host := "") 2 d_prog_10_method_1_code_20 (Or.inl (tw 112 rfl)) (Or.inl rfl) rfl rfl rfl rfl (Or.inr ⟨tw 113 rfl, rfl, rfl⟩) (fun _ => rfl) (fun _ => rfl) rfl ?_
  try simp only [List.length_cons, List.length_nil, Nat.reduceAdd, Nat.zero_add, List.cons_append, List.nil_append, List.set_cons_zero, List.set_cons_succ, Option.toList]
  refine W.aloadN (pc' := 24) d_prog_10_method_1_code_23 rfl rfl ?_
  refine W.callUp (pc' := 27) d_prog_10_method_1_code_24 (tw 114 rfl) (tw 115 rfl) (tw 116 rfl) (tw 118 rfl) (tw 117 rfl) (tw 83 rfl) (tw 119 rfl) rfl rfl (m_PaneOwner_panes_ hw hst rfl (by simp)) (lenOf pd12 rfl) rfl (by first | rfl | (simp [scS, sc, *]; done) | (simp [scS, sc]; omega)) rfl rfl rfl (by decide) (by decide) (fun v G' hQ => ?_)
  obtain ⟨rfl, rfl⟩ := hQ
  try simp only [List.length_cons, List.length_nil, Nat.reduceAdd, Nat.zero_add, List.cons_append, List.nil_append, List.set_cons_zero, List.set_cons_succ, Option.toList]
  refine W.aloadN (pc' := 28) d_prog_10_method_1_code_27 rfl rfl ?_
  refine W.getfield (pc' := 31) (host := "") 2 d_prog_10_method_1_code_28 (Or.inl (tw 112 rfl)) (Or.inl rfl) rfl rfl rfl rfl ?_
  refine W.callFace (pc' := 36) d_prog_10_method_1_code_31 (tw 120 rfl) (tw 121 rfl) (tw 122 rfl) (tw 123 rfl) (tw 124 rfl) (tw 125 rfl) (tw 126 rfl) (tw 127 rfl) (tw 20 rfl) (tw 128 rfl) rfl rfl (m_ArrayList_add_A_v2 hw hst) (lenOf pd13 rfl) rfl (by first | rfl | (simp [scS, sc, *]; done) | (simp [scS, sc]; omega)) rfl rfl rfl (by decide) (by decide) (fun v G' hQ => ?_)
  obtain ⟨rfl, rfl⟩ := hQ
  try simp only [List.length_cons, List.length_nil, Nat.reduceAdd, Nat.zero_add, List.cons_append, List.nil_append, List.set_cons_zero, List.set_cons_succ, Option.toList]
  refine W.pop (pc' := 37) d_prog_10_method_1_code_36 rfl ?_
  refine W.return_ d_prog_10_method_1_code_37 (by decide) (by decide) ?_
  exact ⟨rfl, rfl⟩
set_option maxRecDepth 65536 in
set_option maxHeartbeats 4000000 in
theorem m_FreeWindow_pairWith_A_1 {l : Launch} {Z : State} {a0 : Array Value} {n0 : Nat} {oa : Addr} (hw : ∀ d ∈ tables_1, d.before a0 Z = true) (hst : Sta Z Z.heap "java/util/ArrayList" "DEFAULTCAPACITY_EMPTY_ELEMENTDATA" "[Ljava/lang/Object;" (.ref oa)) {rq : Obj} :
    Meth sg l Z n0 [oa] (⟨"com/example/guest_panes/guestpanes/FreeWindow", "pairWith", "(Lcom/example/guest_panes/guestpanes/FreeWindow;)V"⟩ : MethodName) prog_10_method_6_code 2 none ({ frames := 0, cells := 0, slots := 0, locals := 0 } : Room) [.ref 10, .ref 5] [(.inr (.object "java/lang/Object"), []), (.inl 0, [.ref 3, .ref 2, .int 1, .int 1, .int 0]), (.inl 99, []), (.inl 2, [.int 0, .ref 0, .int 0]), rq, (.inl 4, [.ref 7, .ref 1, .ref 8, .null, .int 0]), (.inl 99, []), (.inl 2, [.int (0 + 1), .ref 9, .int (0 + 1)]), (.inl 5, [.ref 6, .ref 5, .ref 4, .int 0]), (.inr (.object "java/lang/Object"), [.ref 8, .null, .null, .null, .null, .null, .null, .null, .null, .null]), (.inl 4, [.ref 12, .ref 1, .ref 13, .null, .int 0]), (.inl 99, []), (.inl 2, [.int (0 + 1), .ref 14, .int (0 + 1)]), (.inl 5, [.ref 11, .ref 10, .ref 4, .int 0]), (.inr (.object "java/lang/Object"), [.ref 13, .null, .null, .null, .null, .null, .null, .null, .null, .null]), (.inl 4, [.ref 17, .ref 1, .ref 18, .null, .int 0]), (.inl 99, []), (.inl 2, [.int (0 + 1), .ref 19, .int (0 + 1)]), (.inl 5, [.ref 16, .ref 15, .ref 4, .int 0]), (.inr (.object "java/lang/Object"), [.ref 18, .null, .null, .null, .null, .null, .null, .null, .null, .null])] (fun v G' => v = none ∧ G' = [(.inr (.object "java/lang/Object"), []), (.inl 0, [.ref 3, .ref 2, .int 1, .int 1, .int 0]), (.inl 99, []), (.inl 2, [.int 0, .ref 0, .int 0]), rq, (.inl 4, [.ref 7, .ref 1, .ref 8, .ref 10, .int 1]), (.inl 99, []), (.inl 2, [.int (0 + 1), .ref 9, .int (0 + 1)]), (.inl 5, [.ref 6, .ref 5, .ref 4, .int 0]), (.inr (.object "java/lang/Object"), [.ref 8, .null, .null, .null, .null, .null, .null, .null, .null, .null]), (.inl 4, [.ref 12, .ref 1, .ref 13, .ref 5, .int 0]), (.inl 99, []), (.inl 2, [.int (0 + 1), .ref 14, .int (0 + 1)]), (.inl 5, [.ref 11, .ref 10, .ref 4, .int 0]), (.inr (.object "java/lang/Object"), [.ref 13, .null, .null, .null, .null, .null, .null, .null, .null, .null]), (.inl 4, [.ref 17, .ref 1, .ref 18, .null, .int 0]), (.inl 99, []), (.inl 2, [.int (0 + 1), .ref 19, .int (0 + 1)]), (.inl 5, [.ref 16, .ref 15, .ref 4, .int 0]), (.inr (.object "java/lang/Object"), [.ref 18, .null, .null, .null, .null, .null, .null, .null, .null, .null])]) := by
  refine Meth.of (a0 := a0) (tab := tables_1) (Ls := [.val (.ref 10), .val (.ref 5)]) pn_prog_10_method_6_code hw sgOk (fun ad m => ent rfl ad m) ?_
  intro J W
  refine W.aloadN (pc' := 1) d_prog_10_method_6_code_0 rfl rfl ?_
  refine W.getfield (pc' := 4) (host := "") 3 d_prog_10_method_6_code_1 (Or.inl (tw 162 rfl)) (Or.inl rfl) rfl rfl rfl rfl ?_
  refine W.ifnull_t (pc' := 15) d_prog_10_method_6_code_4 ?_
  refine W.aloadN (pc' := 16) d_prog_10_method_6_code_15 rfl rfl ?_
  refine W.aloadN (pc' := 17) d_prog_10_method_6_code_16 rfl rfl ?_
  refine W.putfield (pc' := 20) (host := "") 3 d_prog_10_method_6_code_17 (Or.inl (tw 162 rfl)) (Or.inl rfl) rfl rfl rfl rfl (Or.inl (tw 163 rfl)) (fun _ => rfl) (fun _ => rfl) rfl ?_
  try simp only [List.length_cons, List.length_nil, Nat.reduceAdd, Nat.zero_add, List.cons_append, List.nil_append, List.set_cons_zero, List.set_cons_succ, Option.toList]
  refine W.aloadN (pc' := 21) d_prog_10_method_6_code_20 rfl rfl ?_
  refine W.iconst (pc' := 22) (1) d_prog_10_method_6_code_21 rfl ?_
  refine W.putfield (pc' := 25) (host := "") 4 d_prog_10_method_6_code_22 (Or.inl (tw 164 rfl)) (Or.inl rfl) rfl rfl rfl rfl (Or.inl (tw 165 rfl)) (fun _ => rfl) (fun _ => rfl) rfl ?_
  try simp only [List.length_cons, List.length_nil, Nat.reduceAdd, Nat.zero_add, List.cons_append, List.nil_append, List.set_cons_zero, List.set_cons_succ, Option.toList]
  refine W.aloadN (pc' := 26) d_prog_10_method_6_code_25 rfl rfl ?_
  refine W.aloadN (pc' := 27) d_prog_10_method_6_code_26 rfl rfl ?_
  refine W.putfield (pc' := 30) (host := "") 3 d_prog_10_method_6_code_27 (Or.inl (tw 162 rfl)) (Or.inl rfl) rfl rfl rfl rfl (Or.inl (tw 163 rfl)) (fun _ => rfl) (fun _ => rfl) rfl ?_
  try simp only [List.length_cons, List.length_nil, Nat.reduceAdd, Nat.zero_add, List.cons_append, List.nil_append, List.set_cons_zero, List.set_cons_succ, Option.toList]
  refine W.aloadN (pc' := 31) d_prog_10_method_6_code_30 rfl rfl ?_
  refine W.iconst (pc' := 32) (0) d_prog_10_method_6_code_31 rfl ?_
  refine W.putfield (pc' := 35) (host := "") 4 d_prog_10_method_6_code_32 (Or.inl (tw 164 rfl)) (Or.inl rfl) rfl rfl rfl rfl (Or.inl (tw 165 rfl)) (fun _ => rfl) (fun _ => rfl) rfl ?_
  try simp only [List.length_cons, List.length_nil, Nat.reduceAdd, Nat.zero_add, List.cons_append, List.nil_append, List.set_cons_zero, List.set_cons_succ, Option.toList]
  refine W.return_ d_prog_10_method_6_code_35 (by decide) (by decide) ?_
  exact ⟨rfl, rfl⟩
set_option maxRecDepth 65536 in
set_option maxHeartbeats 4000000 in
theorem m_FreeWindow_pairWith_A_2 {l : Launch} {Z : State} {a0 : Array Value} {n0 : Nat} {oa : Addr} (hw : ∀ d ∈ tables_1, d.before a0 Z = true) (hst : Sta Z Z.heap "java/util/ArrayList" "DEFAULTCAPACITY_EMPTY_ELEMENTDATA" "[Ljava/lang/Object;" (.ref oa)) {rq : Obj} :
    Meth sg l Z n0 [oa] (⟨"com/example/guest_panes/guestpanes/FreeWindow", "pairWith", "(Lcom/example/guest_panes/guestpanes/FreeWindow;)V"⟩ : MethodName) prog_10_method_6_code 2 none ({ frames := 0, cells := 0, slots := 0, locals := 0 } : Room) [.ref 15, .ref 5] [(.inr (.object "java/lang/Object"), []), (.inl 0, [.ref 3, .ref 2, .int 1, .int 1, .int 0]), (.inl 99, []), (.inl 2, [.int 0, .ref 0, .int 0]), rq, (.inl 4, [.ref 7, .ref 1, .ref 8, .ref 10, .int 1]), (.inl 99, []), (.inl 2, [.int (0 + 1), .ref 9, .int (0 + 1)]), (.inl 5, [.ref 6, .ref 5, .ref 4, .int 0]), (.inr (.object "java/lang/Object"), [.ref 8, .null, .null, .null, .null, .null, .null, .null, .null, .null]), (.inl 4, [.ref 12, .ref 1, .ref 13, .ref 5, .int 0]), (.inl 99, []), (.inl 2, [.int (0 + 1), .ref 14, .int (0 + 1)]), (.inl 5, [.ref 11, .ref 10, .ref 4, .int 0]), (.inr (.object "java/lang/Object"), [.ref 13, .null, .null, .null, .null, .null, .null, .null, .null, .null]), (.inl 4, [.ref 17, .ref 1, .ref 18, .null, .int 0]), (.inl 99, []), (.inl 2, [.int (0 + 1), .ref 19, .int (0 + 1)]), (.inl 5, [.ref 16, .ref 15, .ref 4, .int 0]), (.inr (.object "java/lang/Object"), [.ref 18, .null, .null, .null, .null, .null, .null, .null, .null, .null])] (fun v G' => v = none ∧ G' = [(.inr (.object "java/lang/Object"), []), (.inl 0, [.ref 3, .ref 2, .int 1, .int 1, .int 0]), (.inl 99, []), (.inl 2, [.int 0, .ref 0, .int 0]), rq, (.inl 4, [.ref 7, .ref 1, .ref 8, .ref 15, .int 1]), (.inl 99, []), (.inl 2, [.int (0 + 1), .ref 9, .int (0 + 1)]), (.inl 5, [.ref 6, .ref 5, .ref 4, .int 0]), (.inr (.object "java/lang/Object"), [.ref 8, .null, .null, .null, .null, .null, .null, .null, .null, .null]), (.inl 4, [.ref 12, .ref 1, .ref 13, .null, .int 0]), (.inl 99, []), (.inl 2, [.int (0 + 1), .ref 14, .int (0 + 1)]), (.inl 5, [.ref 11, .ref 10, .ref 4, .int 0]), (.inr (.object "java/lang/Object"), [.ref 13, .null, .null, .null, .null, .null, .null, .null, .null, .null]), (.inl 4, [.ref 17, .ref 1, .ref 18, .ref 5, .int 0]), (.inl 99, []), (.inl 2, [.int (0 + 1), .ref 19, .int (0 + 1)]), (.inl 5, [.ref 16, .ref 15, .ref 4, .int 0]), (.inr (.object "java/lang/Object"), [.ref 18, .null, .null, .null, .null, .null, .null, .null, .null, .null])]) := by
  refine Meth.of (a0 := a0) (tab := tables_1) (Ls := [.val (.ref 15), .val (.ref 5)]) pn_prog_10_method_6_code hw sgOk (fun ad m => ent rfl ad m) ?_
  intro J W
  refine W.aloadN (pc' := 1) d_prog_10_method_6_code_0 rfl rfl ?_
  refine W.getfield (pc' := 4) (host := "") 3 d_prog_10_method_6_code_1 (Or.inl (tw 162 rfl)) (Or.inl rfl) rfl rfl rfl rfl ?_
  refine W.ifnull_f (pc' := 7) d_prog_10_method_6_code_4 ?_
  refine W.aloadN (pc' := 8) d_prog_10_method_6_code_7 rfl rfl ?_
  refine W.getfield (pc' := 11) (host := "") 3 d_prog_10_method_6_code_8 (Or.inl (tw 162 rfl)) (Or.inl rfl) rfl rfl rfl rfl ?_
  refine W.aconstNull (pc' := 12) d_prog_10_method_6_code_11 ?_
  refine W.putfield (pc' := 15) (host := "") 3 d_prog_10_method_6_code_12 (Or.inl (tw 162 rfl)) (Or.inl rfl) rfl rfl rfl rfl (Or.inl (tw 163 rfl)) (fun _ => rfl) (fun _ => rfl) rfl ?_
  try simp only [List.length_cons, List.length_nil, Nat.reduceAdd, Nat.zero_add, List.cons_append, List.nil_append, List.set_cons_zero, List.set_cons_succ, Option.toList]
  refine W.aloadN (pc' := 16) d_prog_10_method_6_code_15 rfl rfl ?_
  refine W.aloadN (pc' := 17) d_prog_10_method_6_code_16 rfl rfl ?_
  refine W.putfield (pc' := 20) (host := "") 3 d_prog_10_method_6_code_17 (Or.inl (tw 162 rfl)) (Or.inl rfl) rfl rfl rfl rfl (Or.inl (tw 163 rfl)) (fun _ => rfl) (fun _ => rfl) rfl ?_
  try simp only [List.length_cons, List.length_nil, Nat.reduceAdd, Nat.zero_add, List.cons_append, List.nil_append, List.set_cons_zero, List.set_cons_succ, Option.toList]
  refine W.aloadN (pc' := 21) d_prog_10_method_6_code_20 rfl rfl ?_
  refine W.iconst (pc' := 22) (1) d_prog_10_method_6_code_21 rfl ?_
  refine W.putfield (pc' := 25) (host := "") 4 d_prog_10_method_6_code_22 (Or.inl (tw 164 rfl)) (Or.inl rfl) rfl rfl rfl rfl (Or.inl (tw 165 rfl)) (fun _ => rfl) (fun _ => rfl) rfl ?_
  try simp only [List.length_cons, List.length_nil, Nat.reduceAdd, Nat.zero_add, List.cons_append, List.nil_append, List.set_cons_zero, List.set_cons_succ, Option.toList]
  refine W.aloadN (pc' := 26) d_prog_10_method_6_code_25 rfl rfl ?_
  refine W.aloadN (pc' := 27) d_prog_10_method_6_code_26 rfl rfl ?_
  refine W.putfield (pc' := 30) (host := "") 3 d_prog_10_method_6_code_27 (Or.inl (tw 162 rfl)) (Or.inl rfl) rfl rfl rfl rfl (Or.inl (tw 163 rfl)) (fun _ => rfl) (fun _ => rfl) rfl ?_
  try simp only [List.length_cons, List.length_nil, Nat.reduceAdd, Nat.zero_add, List.cons_append, List.nil_append, List.set_cons_zero, List.set_cons_succ, Option.toList]
  refine W.aloadN (pc' := 31) d_prog_10_method_6_code_30 rfl rfl ?_
  refine W.iconst (pc' := 32) (0) d_prog_10_method_6_code_31 rfl ?_
  refine W.putfield (pc' := 35) (host := "") 4 d_prog_10_method_6_code_32 (Or.inl (tw 164 rfl)) (Or.inl rfl) rfl rfl rfl rfl (Or.inl (tw 165 rfl)) (fun _ => rfl) (fun _ => rfl) rfl ?_
  try simp only [List.length_cons, List.length_nil, Nat.reduceAdd, Nat.zero_add, List.cons_append, List.nil_append, List.set_cons_zero, List.set_cons_succ, Option.toList]
  refine W.return_ d_prog_10_method_6_code_35 (by decide) (by decide) ?_
  exact ⟨rfl, rfl⟩
set_option maxRecDepth 65536 in
set_option maxHeartbeats 4000000 in
theorem m_FreeWindow_pairWith_A_3 {l : Launch} {Z : State} {a0 : Array Value} {n0 : Nat} {oa : Addr} (hw : ∀ d ∈ tables_1, d.before a0 Z = true) (hst : Sta Z Z.heap "java/util/ArrayList" "DEFAULTCAPACITY_EMPTY_ELEMENTDATA" "[Ljava/lang/Object;" (.ref oa)) {rq : Obj} :
    Meth sg l Z n0 [oa] (⟨"com/example/guest_panes/guestpanes/FreeWindow", "pairWith", "(Lcom/example/guest_panes/guestpanes/FreeWindow;)V"⟩ : MethodName) prog_10_method_6_code 2 none ({ frames := 0, cells := 0, slots := 0, locals := 0 } : Room) [.ref 15, .ref 10] [(.inr (.object "java/lang/Object"), []), (.inl 0, [.ref 3, .ref 2, .int 1, .int 1, .int 0]), (.inl 99, []), (.inl 2, [.int 0, .ref 0, .int 0]), rq, (.inl 4, [.ref 7, .ref 1, .ref 8, .ref 10, .int 1]), (.inl 99, []), (.inl 2, [.int (0 + 1), .ref 9, .int (0 + 1)]), (.inl 5, [.ref 6, .ref 5, .ref 4, .int 0]), (.inr (.object "java/lang/Object"), [.ref 8, .null, .null, .null, .null, .null, .null, .null, .null, .null]), (.inl 4, [.ref 12, .ref 1, .ref 13, .ref 5, .int 0]), (.inl 99, []), (.inl 2, [.int (0 + 1), .ref 14, .int (0 + 1)]), (.inl 5, [.ref 11, .ref 10, .ref 4, .int 0]), (.inr (.object "java/lang/Object"), [.ref 13, .null, .null, .null, .null, .null, .null, .null, .null, .null]), (.inl 4, [.ref 17, .ref 1, .ref 18, .null, .int 0]), (.inl 99, []), (.inl 2, [.int (0 + 1), .ref 19, .int (0 + 1)]), (.inl 5, [.ref 16, .ref 15, .ref 4, .int 0]), (.inr (.object "java/lang/Object"), [.ref 18, .null, .null, .null, .null, .null, .null, .null, .null, .null])] (fun v G' => v = none ∧ G' = [(.inr (.object "java/lang/Object"), []), (.inl 0, [.ref 3, .ref 2, .int 1, .int 1, .int 0]), (.inl 99, []), (.inl 2, [.int 0, .ref 0, .int 0]), rq, (.inl 4, [.ref 7, .ref 1, .ref 8, .null, .int 1]), (.inl 99, []), (.inl 2, [.int (0 + 1), .ref 9, .int (0 + 1)]), (.inl 5, [.ref 6, .ref 5, .ref 4, .int 0]), (.inr (.object "java/lang/Object"), [.ref 8, .null, .null, .null, .null, .null, .null, .null, .null, .null]), (.inl 4, [.ref 12, .ref 1, .ref 13, .ref 15, .int 1]), (.inl 99, []), (.inl 2, [.int (0 + 1), .ref 14, .int (0 + 1)]), (.inl 5, [.ref 11, .ref 10, .ref 4, .int 0]), (.inr (.object "java/lang/Object"), [.ref 13, .null, .null, .null, .null, .null, .null, .null, .null, .null]), (.inl 4, [.ref 17, .ref 1, .ref 18, .ref 10, .int 0]), (.inl 99, []), (.inl 2, [.int (0 + 1), .ref 19, .int (0 + 1)]), (.inl 5, [.ref 16, .ref 15, .ref 4, .int 0]), (.inr (.object "java/lang/Object"), [.ref 18, .null, .null, .null, .null, .null, .null, .null, .null, .null])]) := by
  refine Meth.of (a0 := a0) (tab := tables_1) (Ls := [.val (.ref 15), .val (.ref 10)]) pn_prog_10_method_6_code hw sgOk (fun ad m => ent rfl ad m) ?_
  intro J W
  refine W.aloadN (pc' := 1) d_prog_10_method_6_code_0 rfl rfl ?_
  refine W.getfield (pc' := 4) (host := "") 3 d_prog_10_method_6_code_1 (Or.inl (tw 162 rfl)) (Or.inl rfl) rfl rfl rfl rfl ?_
  refine W.ifnull_f (pc' := 7) d_prog_10_method_6_code_4 ?_
  refine W.aloadN (pc' := 8) d_prog_10_method_6_code_7 rfl rfl ?_
  refine W.getfield (pc' := 11) (host := "") 3 d_prog_10_method_6_code_8 (Or.inl (tw 162 rfl)) (Or.inl rfl) rfl rfl rfl rfl ?_
  refine W.aconstNull (pc' := 12) d_prog_10_method_6_code_11 ?_
  refine W.putfield (pc' := 15) (host := "") 3 d_prog_10_method_6_code_12 (Or.inl (tw 162 rfl)) (Or.inl rfl) rfl rfl rfl rfl (Or.inl (tw 163 rfl)) (fun _ => rfl) (fun _ => rfl) rfl ?_
  try simp only [List.length_cons, List.length_nil, Nat.reduceAdd, Nat.zero_add, List.cons_append, List.nil_append, List.set_cons_zero, List.set_cons_succ, Option.toList]
  refine W.aloadN (pc' := 16) d_prog_10_method_6_code_15 rfl rfl ?_
  refine W.aloadN (pc' := 17) d_prog_10_method_6_code_16 rfl rfl ?_
  refine W.putfield (pc' := 20) (host := "") 3 d_prog_10_method_6_code_17 (Or.inl (tw 162 rfl)) (Or.inl rfl) rfl rfl rfl rfl (Or.inl (tw 163 rfl)) (fun _ => rfl) (fun _ => rfl) rfl ?_
  try simp only [List.length_cons, List.length_nil, Nat.reduceAdd, Nat.zero_add, List.cons_append, List.nil_append, List.set_cons_zero, List.set_cons_succ, Option.toList]
  refine W.aloadN (pc' := 21) d_prog_10_method_6_code_20 rfl rfl ?_
  refine W.iconst (pc' := 22) (1) d_prog_10_method_6_code_21 rfl ?_
  refine W.putfield (pc' := 25) (host := "") 4 d_prog_10_method_6_code_22 (Or.inl (tw 164 rfl)) (Or.inl rfl) rfl rfl rfl rfl (Or.inl (tw 165 rfl)) (fun _ => rfl) (fun _ => rfl) rfl ?_
  try simp only [List.length_cons, List.length_nil, Nat.reduceAdd, Nat.zero_add, List.cons_append, List.nil_append, List.set_cons_zero, List.set_cons_succ, Option.toList]
  refine W.aloadN (pc' := 26) d_prog_10_method_6_code_25 rfl rfl ?_
  refine W.aloadN (pc' := 27) d_prog_10_method_6_code_26 rfl rfl ?_
  refine W.putfield (pc' := 30) (host := "") 3 d_prog_10_method_6_code_27 (Or.inl (tw 162 rfl)) (Or.inl rfl) rfl rfl rfl rfl (Or.inl (tw 163 rfl)) (fun _ => rfl) (fun _ => rfl) rfl ?_
  try simp only [List.length_cons, List.length_nil, Nat.reduceAdd, Nat.zero_add, List.cons_append, List.nil_append, List.set_cons_zero, List.set_cons_succ, Option.toList]
  refine W.aloadN (pc' := 31) d_prog_10_method_6_code_30 rfl rfl ?_
  refine W.iconst (pc' := 32) (0) d_prog_10_method_6_code_31 rfl ?_
  refine W.putfield (pc' := 35) (host := "") 4 d_prog_10_method_6_code_32 (Or.inl (tw 164 rfl)) (Or.inl rfl) rfl rfl rfl rfl (Or.inl (tw 165 rfl)) (fun _ => rfl) (fun _ => rfl) rfl ?_
  try simp only [List.length_cons, List.length_nil, Nat.reduceAdd, Nat.zero_add, List.cons_append, List.nil_append, List.set_cons_zero, List.set_cons_succ, Option.toList]
  refine W.return_ d_prog_10_method_6_code_35 (by decide) (by decide) ?_
  exact ⟨rfl, rfl⟩
set_option maxRecDepth 65536 in
set_option maxHeartbeats 4000000 in
theorem m_FreeWindow_pairWith_A_4 {l : Launch} {Z : State} {a0 : Array Value} {n0 : Nat} {oa : Addr} (hw : ∀ d ∈ tables_1, d.before a0 Z = true) (hst : Sta Z Z.heap "java/util/ArrayList" "DEFAULTCAPACITY_EMPTY_ELEMENTDATA" "[Ljava/lang/Object;" (.ref oa)) {rq : Obj} :
    Meth sg l Z n0 [oa] (⟨"com/example/guest_panes/guestpanes/FreeWindow", "pairWith", "(Lcom/example/guest_panes/guestpanes/FreeWindow;)V"⟩ : MethodName) prog_10_method_6_code 2 none ({ frames := 0, cells := 0, slots := 0, locals := 0 } : Room) [.ref 5, .ref 15] [(.inr (.object "java/lang/Object"), []), (.inl 0, [.ref 3, .ref 2, .int 1, .int 1, .int 0]), (.inl 99, []), (.inl 2, [.int 0, .ref 0, .int 0]), rq, (.inl 4, [.ref 7, .ref 1, .ref 8, .null, .int 1]), (.inl 99, []), (.inl 2, [.int (0 + 1), .ref 9, .int (0 + 1)]), (.inl 5, [.ref 6, .ref 5, .ref 4, .int 0]), (.inr (.object "java/lang/Object"), [.ref 8, .null, .null, .null, .null, .null, .null, .null, .null, .null]), (.inl 4, [.ref 12, .ref 1, .ref 13, .ref 15, .int 1]), (.inl 99, []), (.inl 2, [.int (0 + 1), .ref 14, .int (0 + 1)]), (.inl 5, [.ref 11, .ref 10, .ref 4, .int 0]), (.inr (.object "java/lang/Object"), [.ref 13, .null, .null, .null, .null, .null, .null, .null, .null, .null]), (.inl 4, [.ref 17, .ref 1, .ref 18, .ref 10, .int 0]), (.inl 99, []), (.inl 2, [.int (0 + 1), .ref 19, .int (0 + 1)]), (.inl 5, [.ref 16, .ref 15, .ref 4, .int 0]), (.inr (.object "java/lang/Object"), [.ref 18, .null, .null, .null, .null, .null, .null, .null, .null, .null])] (fun v G' => v = none ∧ G' = [(.inr (.object "java/lang/Object"), []), (.inl 0, [.ref 3, .ref 2, .int 1, .int 1, .int 0]), (.inl 99, []), (.inl 2, [.int 0, .ref 0, .int 0]), rq, (.inl 4, [.ref 7, .ref 1, .ref 8, .ref 15, .int 0]), (.inl 99, []), (.inl 2, [.int (0 + 1), .ref 9, .int (0 + 1)]), (.inl 5, [.ref 6, .ref 5, .ref 4, .int 0]), (.inr (.object "java/lang/Object"), [.ref 8, .null, .null, .null, .null, .null, .null, .null, .null, .null]), (.inl 4, [.ref 12, .ref 1, .ref 13, .null, .int 1]), (.inl 99, []), (.inl 2, [.int (0 + 1), .ref 14, .int (0 + 1)]), (.inl 5, [.ref 11, .ref 10, .ref 4, .int 0]), (.inr (.object "java/lang/Object"), [.ref 13, .null, .null, .null, .null, .null, .null, .null, .null, .null]), (.inl 4, [.ref 17, .ref 1, .ref 18, .ref 5, .int 1]), (.inl 99, []), (.inl 2, [.int (0 + 1), .ref 19, .int (0 + 1)]), (.inl 5, [.ref 16, .ref 15, .ref 4, .int 0]), (.inr (.object "java/lang/Object"), [.ref 18, .null, .null, .null, .null, .null, .null, .null, .null, .null])]) := by
  refine Meth.of (a0 := a0) (tab := tables_1) (Ls := [.val (.ref 5), .val (.ref 15)]) pn_prog_10_method_6_code hw sgOk (fun ad m => ent rfl ad m) ?_
  intro J W
  refine W.aloadN (pc' := 1) d_prog_10_method_6_code_0 rfl rfl ?_
  refine W.getfield (pc' := 4) (host := "") 3 d_prog_10_method_6_code_1 (Or.inl (tw 162 rfl)) (Or.inl rfl) rfl rfl rfl rfl ?_
  refine W.ifnull_f (pc' := 7) d_prog_10_method_6_code_4 ?_
  refine W.aloadN (pc' := 8) d_prog_10_method_6_code_7 rfl rfl ?_
  refine W.getfield (pc' := 11) (host := "") 3 d_prog_10_method_6_code_8 (Or.inl (tw 162 rfl)) (Or.inl rfl) rfl rfl rfl rfl ?_
  refine W.aconstNull (pc' := 12) d_prog_10_method_6_code_11 ?_
  refine W.putfield (pc' := 15) (host := "") 3 d_prog_10_method_6_code_12 (Or.inl (tw 162 rfl)) (Or.inl rfl) rfl rfl rfl rfl (Or.inl (tw 163 rfl)) (fun _ => rfl) (fun _ => rfl) rfl ?_
  try simp only [List.length_cons, List.length_nil, Nat.reduceAdd, Nat.zero_add, List.cons_append, List.nil_append, List.set_cons_zero, List.set_cons_succ, Option.toList]
  refine W.aloadN (pc' := 16) d_prog_10_method_6_code_15 rfl rfl ?_
  refine W.aloadN (pc' := 17) d_prog_10_method_6_code_16 rfl rfl ?_
  refine W.putfield (pc' := 20) (host := "") 3 d_prog_10_method_6_code_17 (Or.inl (tw 162 rfl)) (Or.inl rfl) rfl rfl rfl rfl (Or.inl (tw 163 rfl)) (fun _ => rfl) (fun _ => rfl) rfl ?_
  try simp only [List.length_cons, List.length_nil, Nat.reduceAdd, Nat.zero_add, List.cons_append, List.nil_append, List.set_cons_zero, List.set_cons_succ, Option.toList]
  refine W.aloadN (pc' := 21) d_prog_10_method_6_code_20 rfl rfl ?_
  refine W.iconst (pc' := 22) (1) d_prog_10_method_6_code_21 rfl ?_
  refine W.putfield (pc' := 25) (host := "") 4 d_prog_10_method_6_code_22 (Or.inl (tw 164 rfl)) (Or.inl rfl) rfl rfl rfl rfl (Or.inl (tw 165 rfl)) (fun _ => rfl) (fun _ => rfl) rfl ?_
  try simp only [List.length_cons, List.length_nil, Nat.reduceAdd, Nat.zero_add, List.cons_append, List.nil_append, List.set_cons_zero, List.set_cons_succ, Option.toList]
  refine W.aloadN (pc' := 26) d_prog_10_method_6_code_25 rfl rfl ?_
  refine W.aloadN (pc' := 27) d_prog_10_method_6_code_26 rfl rfl ?_
  refine W.putfield (pc' := 30) (host := "") 3 d_prog_10_method_6_code_27 (Or.inl (tw 162 rfl)) (Or.inl rfl) rfl rfl rfl rfl (Or.inl (tw 163 rfl)) (fun _ => rfl) (fun _ => rfl) rfl ?_
  try simp only [List.length_cons, List.length_nil, Nat.reduceAdd, Nat.zero_add, List.cons_append, List.nil_append, List.set_cons_zero, List.set_cons_succ, Option.toList]
  refine W.aloadN (pc' := 31) d_prog_10_method_6_code_30 rfl rfl ?_
  refine W.iconst (pc' := 32) (0) d_prog_10_method_6_code_31 rfl ?_
  refine W.putfield (pc' := 35) (host := "") 4 d_prog_10_method_6_code_32 (Or.inl (tw 164 rfl)) (Or.inl rfl) rfl rfl rfl rfl (Or.inl (tw 165 rfl)) (fun _ => rfl) (fun _ => rfl) rfl ?_
  try simp only [List.length_cons, List.length_nil, Nat.reduceAdd, Nat.zero_add, List.cons_append, List.nil_append, List.set_cons_zero, List.set_cons_succ, Option.toList]
  refine W.return_ d_prog_10_method_6_code_35 (by decide) (by decide) ?_
  exact ⟨rfl, rfl⟩
set_option maxRecDepth 65536 in
set_option maxHeartbeats 4000000 in
theorem m_law {l : Launch} {Z : State} {a0 : Array Value} {n0 : Nat} {oa : Addr} (hw : ∀ d ∈ tables_1, d.before a0 Z = true) (hst : Sta Z Z.heap "java/util/ArrayList" "DEFAULTCAPACITY_EMPTY_ELEMENTDATA" "[Ljava/lang/Object;" (.ref oa)) (i0 i1 i2 i3 i4 : Int32) :
    MethW sg l Z n0 [oa] x code maxLocals ret room_1 [.int i0, .int i1, .int i2, .int i3, .int i4] [(.inr (.object "java/lang/Object"), [])] (fun v G' => v = some (.int 1)) := by
  refine MethW.of (a0 := a0) (tab := tables_1) (Ls := [.val (.int i0), .val (.int i1), .val (.int i2), .val (.int i3), .val (.int i4), .unset, .unset, .unset, .unset, .unset, .unset, .unset, .unset, .unset, .unset, .unset, .unset, .unset, .unset, .unset, .unset, .unset, .unset]) pn_code hw sgOk (fun ad m => ent rfl ad m) ?_
  intro J W
  refine W.iloadN (pc' := 1) at_0 rfl ?_
  refine W.iconst (pc' := 2) (2) at_1 rfl ?_
  refine W.ishr (pc' := 3) at_2 ?_
  refine W.istore (pc' := 5) at_3 rfl ?_
  try simp only [List.length_cons, List.length_nil, Nat.reduceAdd, Nat.zero_add, List.cons_append, List.nil_append, List.set_cons_zero, List.set_cons_succ, Option.toList]
  refine W.iloadN (pc' := 6) at_5 rfl ?_
  refine W.iconst (pc' := 7) (2) at_6 rfl ?_
  refine W.ishr (pc' := 8) at_7 ?_
  refine W.istore (pc' := 10) at_8 rfl ?_
  try simp only [List.length_cons, List.length_nil, Nat.reduceAdd, Nat.zero_add, List.cons_append, List.nil_append, List.set_cons_zero, List.set_cons_succ, Option.toList]
  refine W.iloadN (pc' := 11) at_10 rfl ?_
  refine W.ldcI (pc' := 13) at_11 (tw 0 rfl) ?_
  refine W.iand (pc' := 14) at_13 ?_
  refine W.iconst (pc' := 15) (1) at_14 rfl ?_
  refine W.iadd (pc' := 16) at_15 ?_
  refine W.istore (pc' := 18) at_16 rfl ?_
  try simp only [List.length_cons, List.length_nil, Nat.reduceAdd, Nat.zero_add, List.cons_append, List.nil_append, List.set_cons_zero, List.set_cons_succ, Option.toList]
  refine W.iloadN (pc' := 19) at_18 rfl ?_
  refine W.ldcI (pc' := 21) at_19 (tw 0 rfl) ?_
  refine W.iand (pc' := 22) at_21 ?_
  refine W.istore (pc' := 24) at_22 rfl ?_
  try simp only [List.length_cons, List.length_nil, Nat.reduceAdd, Nat.zero_add, List.cons_append, List.nil_append, List.set_cons_zero, List.set_cons_succ, Option.toList]
  refine W.new (pc' := 27) (vs := [.null, .null, .int 0, .int 0, .int 0]) 0 at_24 rfl (tw 1 rfl) (tw 3 rfl) rfl (by first | rfl | (simp [scS, sc, *]; done) | (simp [scS, sc]; omega)) (by decide) (by decide) ?_
  try simp only [List.length_cons, List.length_nil, Nat.reduceAdd, Nat.zero_add, List.cons_append, List.nil_append, List.set_cons_zero, List.set_cons_succ, Option.toList]
  refine W.dup (pc' := 28) at_27 rfl ?_
  refine W.ldcS (pc' := 30) 4 at_28 (tw 4 rfl) strs (by decide) (by decide) 99 rfl (by first | rfl | (simp [scS, sc, *]; done) | (simp [scS, sc]; omega)) (by decide) (by decide) ?_
  try simp only [List.length_cons, List.length_nil, Nat.reduceAdd, Nat.zero_add, List.cons_append, List.nil_append, List.set_cons_zero, List.set_cons_succ, Option.toList]
  refine W.iconst (pc' := 31) (1) at_30 rfl ?_
  refine W.iconst (pc' := 32) (1) at_31 rfl ?_
  refine W.iconst (pc' := 33) (0) at_32 rfl ?_
  refine W.callInit (pc' := 36) at_33 (tw 12 rfl) (tw 13 rfl) (tw 3 rfl) (tw 14 rfl) (m_Display__init__AIII hw hst) (lenOf pd14 rfl) rfl (by first | rfl | (simp [scS, sc, *]; done) | (simp [scS, sc]; omega)) rfl rfl rfl (by decide) (by decide) (fun v G' hQ => ?_)
  obtain ⟨rfl, rfl⟩ := hQ
  try simp only [List.length_cons, List.length_nil, Nat.reduceAdd, Nat.zero_add, List.cons_append, List.nil_append, List.set_cons_zero, List.set_cons_succ, Option.toList]
  refine W.astore (pc' := 38) at_36 rfl rfl ?_
  try simp only [List.length_cons, List.length_nil, Nat.reduceAdd, Nat.zero_add, List.cons_append, List.nil_append, List.set_cons_zero, List.set_cons_succ, Option.toList]
  refine W.new (pc' := 41) (vs := [.int 0, .int 0, .int 0, .int 0]) 3 at_38 rfl (tw 52 rfl) (tw 54 rfl) rfl (by first | rfl | (simp [scS, sc, *]; done) | (simp [scS, sc]; omega)) (by decide) (by decide) ?_
  try simp only [List.length_cons, List.length_nil, Nat.reduceAdd, Nat.zero_add, List.cons_append, List.nil_append, List.set_cons_zero, List.set_cons_succ, Option.toList]
  refine W.dup (pc' := 42) at_41 rfl ?_
  refine W.iload (pc' := 44) at_42 rfl ?_
  refine W.iload (pc' := 46) at_44 rfl ?_
  refine W.iload (pc' := 48) at_46 rfl ?_
  refine W.iload (pc' := 50) at_48 rfl ?_
  refine W.iadd (pc' := 51) at_50 ?_
  refine W.iload (pc' := 53) at_51 rfl ?_
  refine W.iload (pc' := 55) at_53 rfl ?_
  refine W.iadd (pc' := 56) at_55 ?_
  refine W.callInit (pc' := 59) at_56 (tw 55 rfl) (tw 56 rfl) (tw 54 rfl) (tw 57 rfl) (m_Rect__init__IIII (u := .int 0) (w := .int 0) (y := .int 0) (z := .int 0) hw hst rfl rfl (own_rc0 (own_inI i0 i1 i2 i3))) (lenOf pd2 rfl) rfl (by first | rfl | (simp [scS, sc, *]; done) | (simp [scS, sc]; omega)) rfl rfl rfl (by decide) (by decide) (fun v G' hQ => ?_)
  obtain ⟨rfl, rfl⟩ := hQ
  try simp only [List.length_cons, List.length_nil, Nat.reduceAdd, Nat.zero_add, List.cons_append, List.nil_append, List.set_cons_zero, List.set_cons_succ, Option.toList]
  refine W.astore (pc' := 61) at_59 rfl rfl ?_
  try simp only [List.length_cons, List.length_nil, Nat.reduceAdd, Nat.zero_add, List.cons_append, List.nil_append, List.set_cons_zero, List.set_cons_succ, Option.toList]
  refine W.new (pc' := 64) (vs := [.null, .null, .null, .null, .int 0]) 4 at_61 rfl (tw 73 rfl) (tw 75 rfl) rfl (by first | rfl | (simp [scS, sc, *]; done) | (simp [scS, sc]; omega)) (by decide) (by decide) ?_
  try simp only [List.length_cons, List.length_nil, Nat.reduceAdd, Nat.zero_add, List.cons_append, List.nil_append, List.set_cons_zero, List.set_cons_succ, Option.toList]
  refine W.dup (pc' := 65) at_64 rfl ?_
  refine W.ldcS (pc' := 67) 4 at_65 (tw 76 rfl) strs (by decide) (by decide) 99 rfl (by first | rfl | (simp [scS, sc, *]; done) | (simp [scS, sc]; omega)) (by decide) (by decide) ?_
  try simp only [List.length_cons, List.length_nil, Nat.reduceAdd, Nat.zero_add, List.cons_append, List.nil_append, List.set_cons_zero, List.set_cons_succ, Option.toList]
  refine W.aload (pc' := 69) at_67 rfl rfl ?_
  refine W.aload (pc' := 71) at_69 rfl rfl ?_
  refine W.callInit (pc' := 74) at_71 (tw 77 rfl) (tw 78 rfl) (tw 75 rfl) (tw 79 rfl) (m_FreeWindow__init__AAA_v0 hw hst) (lenOf pd15 rfl) rfl (by first | rfl | (simp [scS, sc, *]; done) | (simp [scS, sc]; omega)) rfl rfl rfl (by decide) (by decide) (fun v G' hQ => ?_)
  obtain ⟨rfl, rfl⟩ := hQ
  try simp only [List.length_cons, List.length_nil, Nat.reduceAdd, Nat.zero_add, List.cons_append, List.nil_append, List.set_cons_zero, List.set_cons_succ, Option.toList]
  refine W.astore (pc' := 76) at_74 rfl rfl ?_
  try simp only [List.length_cons, List.length_nil, Nat.reduceAdd, Nat.zero_add, List.cons_append, List.nil_append, List.set_cons_zero, List.set_cons_succ, Option.toList]
  refine W.new (pc' := 79) (vs := [.null, .null, .null, .null, .int 0]) 4 at_76 rfl (tw 73 rfl) (tw 75 rfl) rfl (by first | rfl | (simp [scS, sc, *]; done) | (simp [scS, sc]; omega)) (by decide) (by decide) ?_
  try simp only [List.length_cons, List.length_nil, Nat.reduceAdd, Nat.zero_add, List.cons_append, List.nil_append, List.set_cons_zero, List.set_cons_succ, Option.toList]
  refine W.dup (pc' := 80) at_79 rfl ?_
  refine W.ldcS (pc' := 82) 4 at_80 (tw 155 rfl) strs (by decide) (by decide) 99 rfl (by first | rfl | (simp [scS, sc, *]; done) | (simp [scS, sc]; omega)) (by decide) (by decide) ?_
  try simp only [List.length_cons, List.length_nil, Nat.reduceAdd, Nat.zero_add, List.cons_append, List.nil_append, List.set_cons_zero, List.set_cons_succ, Option.toList]
  refine W.aload (pc' := 84) at_82 rfl rfl ?_
  refine W.aload (pc' := 86) at_84 rfl rfl ?_
  refine W.callInit (pc' := 89) at_86 (tw 77 rfl) (tw 78 rfl) (tw 75 rfl) (tw 79 rfl) (m_FreeWindow__init__AAA_v1 hw hst) (lenOf pd15 rfl) rfl (by first | rfl | (simp [scS, sc, *]; done) | (simp [scS, sc]; omega)) rfl rfl rfl (by decide) (by decide) (fun v G' hQ => ?_)
  obtain ⟨rfl, rfl⟩ := hQ
  try simp only [List.length_cons, List.length_nil, Nat.reduceAdd, Nat.zero_add, List.cons_append, List.nil_append, List.set_cons_zero, List.set_cons_succ, Option.toList]
  refine W.astore (pc' := 91) at_89 rfl rfl ?_
  try simp only [List.length_cons, List.length_nil, Nat.reduceAdd, Nat.zero_add, List.cons_append, List.nil_append, List.set_cons_zero, List.set_cons_succ, Option.toList]
  refine W.new (pc' := 94) (vs := [.null, .null, .null, .null, .int 0]) 4 at_91 rfl (tw 73 rfl) (tw 75 rfl) rfl (by first | rfl | (simp [scS, sc, *]; done) | (simp [scS, sc]; omega)) (by decide) (by decide) ?_
  try simp only [List.length_cons, List.length_nil, Nat.reduceAdd, Nat.zero_add, List.cons_append, List.nil_append, List.set_cons_zero, List.set_cons_succ, Option.toList]
  refine W.dup (pc' := 95) at_94 rfl ?_
  refine W.ldcS (pc' := 97) 4 at_95 (tw 156 rfl) strs (by decide) (by decide) 99 rfl (by first | rfl | (simp [scS, sc, *]; done) | (simp [scS, sc]; omega)) (by decide) (by decide) ?_
  try simp only [List.length_cons, List.length_nil, Nat.reduceAdd, Nat.zero_add, List.cons_append, List.nil_append, List.set_cons_zero, List.set_cons_succ, Option.toList]
  refine W.aload (pc' := 99) at_97 rfl rfl ?_
  refine W.aload (pc' := 101) at_99 rfl rfl ?_
  refine W.callInit (pc' := 104) at_101 (tw 77 rfl) (tw 78 rfl) (tw 75 rfl) (tw 79 rfl) (m_FreeWindow__init__AAA_v2 hw hst) (lenOf pd15 rfl) rfl (by first | rfl | (simp [scS, sc, *]; done) | (simp [scS, sc]; omega)) rfl rfl rfl (by decide) (by decide) (fun v G' hQ => ?_)
  obtain ⟨rfl, rfl⟩ := hQ
  try simp only [List.length_cons, List.length_nil, Nat.reduceAdd, Nat.zero_add, List.cons_append, List.nil_append, List.set_cons_zero, List.set_cons_succ, Option.toList]
  refine W.astore (pc' := 106) at_104 rfl rfl ?_
  try simp only [List.length_cons, List.length_nil, Nat.reduceAdd, Nat.zero_add, List.cons_append, List.nil_append, List.set_cons_zero, List.set_cons_succ, Option.toList]
  refine W.iload (pc' := 108) at_106 rfl ?_
  refine W.iconst (pc' := 109) (1) at_108 rfl ?_
  refine W.iand (pc' := 110) at_109 ?_
  refine W.if_eq (pc' := 117) (pc2 := 113) at_110 (fun hc110 => ?_) (fun hc110 => ?_)
  · refine W.iconst (pc' := 118) (0) at_117 rfl ?_
    refine W.istore (pc' := 120) at_118 rfl ?_
    try simp only [List.length_cons, List.length_nil, Nat.reduceAdd, Nat.zero_add, List.cons_append, List.nil_append, List.set_cons_zero, List.set_cons_succ, Option.toList]
    refine W.iload (pc' := 122) at_120 rfl ?_
    refine W.iconst (pc' := 123) (2) at_122 rfl ?_
    refine W.iand (pc' := 124) at_123 ?_
    refine W.dia_if_eq (pc' := 131) (pe := 132) (1) (0) at_124 at_127 at_128 at_131 rfl rfl ?_
    refine W.istore (pc' := 134) at_132 rfl ?_
    try simp only [List.length_cons, List.length_nil, Nat.reduceAdd, Nat.zero_add, List.cons_append, List.nil_append, List.set_cons_zero, List.set_cons_succ, Option.toList]
    refine W.iload (pc' := 136) at_134 rfl ?_
    refine W.if_eq (pc' := 155) (pc2 := 139) at_136 (fun _ => ?_) (fun hz_ => absurd (rfl) hz_)
    refine W.iconst (pc' := 156) (0) at_155 rfl ?_
    refine W.istore (pc' := 158) at_156 rfl ?_
    try simp only [List.length_cons, List.length_nil, Nat.reduceAdd, Nat.zero_add, List.cons_append, List.nil_append, List.set_cons_zero, List.set_cons_succ, Option.toList]
    refine W.aload (pc' := 160) at_158 rfl rfl ?_
    refine W.aload (pc' := 162) at_160 rfl rfl ?_
    refine W.callVirtual (pc' := 165) at_162 (tw 157 rfl) (tw 158 rfl) (tw 160 rfl) (tw 159 rfl) (tw 75 rfl) (tw 161 rfl) rfl rfl (m_FreeWindow_pairWith_A_1 hw hst) (lenOf pd16 rfl) rfl (by first | rfl | (simp [scS, sc, *]; done) | (simp [scS, sc]; omega)) rfl rfl rfl (by decide) (by decide) (fun v G' hQ => ?_)
    obtain ⟨rfl, rfl⟩ := hQ
    try simp only [List.length_cons, List.length_nil, Nat.reduceAdd, Nat.zero_add, List.cons_append, List.nil_append, List.set_cons_zero, List.set_cons_succ, Option.toList]
    refine W.iload (pc' := 167) at_165 rfl ?_
    refine W.if_eq (pc' := 192) (pc2 := 170) at_167 (fun _ => ?_) (fun hz_ => absurd (rfl) hz_)
    refine W.iload (pc' := 194) at_192 rfl ?_
    refine W.if_eq (pc' := 204) (pc2 := 197) at_194 (fun _ => ?_) (fun hz_ => absurd (rfl) hz_)
    refine W.iload (pc' := 206) at_204 rfl ?_
    refine W.if_ne (pc' := 232) (pc2 := 209) at_206 (fun _ => ?_) (fun hz_ => absurd (rfl) hz_)
    refine W.aload (pc' := 211) at_209 rfl rfl ?_
    refine W.astore (pc' := 213) at_211 rfl rfl ?_
    try simp only [List.length_cons, List.length_nil, Nat.reduceAdd, Nat.zero_add, List.cons_append, List.nil_append, List.set_cons_zero, List.set_cons_succ, Option.toList]
    refine W.aload (pc' := 215) at_213 rfl rfl ?_
    refine W.astore (pc' := 217) at_215 rfl rfl ?_
    try simp only [List.length_cons, List.length_nil, Nat.reduceAdd, Nat.zero_add, List.cons_append, List.nil_append, List.set_cons_zero, List.set_cons_succ, Option.toList]
    refine W.aconstNull (pc' := 218) at_217 ?_
    refine W.astore (pc' := 220) at_218 rfl rfl ?_
    try simp only [List.length_cons, List.length_nil, Nat.reduceAdd, Nat.zero_add, List.cons_append, List.nil_append, List.set_cons_zero, List.set_cons_succ, Option.toList]
    refine W.iconst (pc' := 221) (1) at_220 rfl ?_
    refine W.istore (pc' := 223) at_221 rfl ?_
    try simp only [List.length_cons, List.length_nil, Nat.reduceAdd, Nat.zero_add, List.cons_append, List.nil_append, List.set_cons_zero, List.set_cons_succ, Option.toList]
    refine W.iconst (pc' := 224) (0) at_223 rfl ?_
    refine W.istore (pc' := 226) at_224 rfl ?_
    try simp only [List.length_cons, List.length_nil, Nat.reduceAdd, Nat.zero_add, List.cons_append, List.nil_append, List.set_cons_zero, List.set_cons_succ, Option.toList]
    refine W.iconst (pc' := 227) (0) at_226 rfl ?_
    refine W.istore (pc' := 229) at_227 rfl ?_
    try simp only [List.length_cons, List.length_nil, Nat.reduceAdd, Nat.zero_add, List.cons_append, List.nil_append, List.set_cons_zero, List.set_cons_succ, Option.toList]
    refine W.goto (pc' := 308) at_229 ?_
    refine W.aload (pc' := 310) at_308 rfl rfl ?_
    refine W.aload (pc' := 312) at_310 rfl rfl ?_
    refine W.iload (pc' := 314) at_312 rfl ?_
    refine W.aload (pc' := 316) at_314 rfl rfl ?_
    refine W.iload (pc' := 318) at_316 rfl ?_
    refine W.iload (pc' := 320) at_318 rfl ?_
    refine W.iload (pc' := 322) at_320 rfl ?_
    refine W.iload (pc' := 324) at_322 rfl ?_
    refine W.callStatic (pc' := 327) at_324 (tw 166 rfl) (tw 167 rfl) (tw 168 rfl) (tw 169 rfl) (m_check_1 hw hst rfl (own_inI i0 i1 i2 i3) rfl (by simp)) (lenOf pd17 rfl) rfl (by first | rfl | (simp [scS, sc, *]; done) | (simp [scS, sc]; omega)) rfl rfl rfl (by decide) (by decide) (fun v G' hQ => ?_)
    obtain ⟨rfl, rfl⟩ := hQ
    try simp only [List.length_cons, List.length_nil, Nat.reduceAdd, Nat.zero_add, List.cons_append, List.nil_append, List.set_cons_zero, List.set_cons_succ, Option.toList]
    refine W.if_eq (pc' := 378) (pc2 := 330) at_327 (fun hz_ => absurd hz_ (by decide)) (fun _ => ?_)
    refine W.aload (pc' := 332) at_330 rfl rfl ?_
    refine W.aload (pc' := 334) at_332 rfl rfl ?_
    refine W.iload (pc' := 336) at_334 rfl ?_
    refine W.aload (pc' := 338) at_336 rfl rfl ?_
    refine W.iload (pc' := 340) at_338 rfl ?_
    refine W.iload (pc' := 342) at_340 rfl ?_
    refine W.iload (pc' := 344) at_342 rfl ?_
    refine W.iload (pc' := 346) at_344 rfl ?_
    refine W.callStatic (pc' := 349) at_346 (tw 166 rfl) (tw 167 rfl) (tw 168 rfl) (tw 169 rfl) (m_check_0 hw hst rfl (own_inI i0 i1 i2 i3) rfl (by simp)) (lenOf pd17 rfl) rfl (by first | rfl | (simp [scS, sc, *]; done) | (simp [scS, sc]; omega)) rfl rfl rfl (by decide) (by decide) (fun v G' hQ => ?_)
    obtain ⟨rfl, rfl⟩ := hQ
    try simp only [List.length_cons, List.length_nil, Nat.reduceAdd, Nat.zero_add, List.cons_append, List.nil_append, List.set_cons_zero, List.set_cons_succ, Option.toList]
    refine W.if_eq (pc' := 378) (pc2 := 352) at_349 (fun hz_ => absurd hz_ (by decide)) (fun _ => ?_)
    refine W.aload (pc' := 354) at_352 rfl rfl ?_
    refine W.aload (pc' := 356) at_354 rfl rfl ?_
    refine W.iload (pc' := 358) at_356 rfl ?_
    refine W.aload (pc' := 360) at_358 rfl rfl ?_
    refine W.iload (pc' := 362) at_360 rfl ?_
    refine W.iload (pc' := 364) at_362 rfl ?_
    refine W.iload (pc' := 366) at_364 rfl ?_
    refine W.iload (pc' := 368) at_366 rfl ?_
    refine W.callStatic (pc' := 371) at_368 (tw 166 rfl) (tw 167 rfl) (tw 168 rfl) (tw 169 rfl) (m_check_n hw hst rfl (own_inI i0 i1 i2 i3) rfl) (lenOf pd17 rfl) rfl (by first | rfl | (simp [scS, sc, *]; done) | (simp [scS, sc]; omega)) rfl rfl rfl (by decide) (by decide) (fun v G' hQ => ?_)
    obtain ⟨rfl, rfl⟩ := hQ
    try simp only [List.length_cons, List.length_nil, Nat.reduceAdd, Nat.zero_add, List.cons_append, List.nil_append, List.set_cons_zero, List.set_cons_succ, Option.toList]
    refine W.if_eq (pc' := 378) (pc2 := 374) at_371 (fun hz_ => absurd hz_ (by decide)) (fun _ => ?_)
    refine W.iconst (pc' := 375) (1) at_374 rfl ?_
    refine W.goto (pc' := 379) at_375 ?_
    refine W.zreturn at_379 (by decide) (by decide) (by decide) ?_
    rfl
  · refine W.iconst (pc' := 114) (1) at_113 rfl ?_
    refine W.goto (pc' := 118) at_114 ?_
    refine W.istore (pc' := 120) at_118 rfl ?_
    try simp only [List.length_cons, List.length_nil, Nat.reduceAdd, Nat.zero_add, List.cons_append, List.nil_append, List.set_cons_zero, List.set_cons_succ, Option.toList]
    refine W.iload (pc' := 122) at_120 rfl ?_
    refine W.iconst (pc' := 123) (2) at_122 rfl ?_
    refine W.iand (pc' := 124) at_123 ?_
    refine W.if_eq (pc' := 131) (pc2 := 127) at_124 (fun hc124 => ?_) (fun hc124 => ?_)
    · refine W.iconst (pc' := 132) (0) at_131 rfl ?_
      refine W.istore (pc' := 134) at_132 rfl ?_
      try simp only [List.length_cons, List.length_nil, Nat.reduceAdd, Nat.zero_add, List.cons_append, List.nil_append, List.set_cons_zero, List.set_cons_succ, Option.toList]
      refine W.iload (pc' := 136) at_134 rfl ?_
      refine W.if_eq (pc' := 155) (pc2 := 139) at_136 (fun hz_ => absurd hz_ (by decide)) (fun _ => ?_)
      refine W.iload (pc' := 141) at_139 rfl ?_
      refine W.if_ne (pc' := 155) (pc2 := 144) at_141 (fun _ => ?_) (fun hz_ => absurd (rfl) hz_)
      refine W.iload (pc' := 146) at_144 rfl ?_
      refine W.iconst (pc' := 147) (4) at_146 rfl ?_
      refine W.iand (pc' := 148) at_147 ?_
      refine W.if_eq (pc' := 155) (pc2 := 151) at_148 (fun hc148 => ?_) (fun hc148 => ?_)
      · refine W.iconst (pc' := 156) (0) at_155 rfl ?_
        refine W.istore (pc' := 158) at_156 rfl ?_
        try simp only [List.length_cons, List.length_nil, Nat.reduceAdd, Nat.zero_add, List.cons_append, List.nil_append, List.set_cons_zero, List.set_cons_succ, Option.toList]
        refine W.aload (pc' := 160) at_158 rfl rfl ?_
        refine W.aload (pc' := 162) at_160 rfl rfl ?_
        refine W.callVirtual (pc' := 165) at_162 (tw 157 rfl) (tw 158 rfl) (tw 160 rfl) (tw 159 rfl) (tw 75 rfl) (tw 161 rfl) rfl rfl (m_FreeWindow_pairWith_A_1 hw hst) (lenOf pd16 rfl) rfl (by first | rfl | (simp [scS, sc, *]; done) | (simp [scS, sc]; omega)) rfl rfl rfl (by decide) (by decide) (fun v G' hQ => ?_)
        obtain ⟨rfl, rfl⟩ := hQ
        try simp only [List.length_cons, List.length_nil, Nat.reduceAdd, Nat.zero_add, List.cons_append, List.nil_append, List.set_cons_zero, List.set_cons_succ, Option.toList]
        refine W.iload (pc' := 167) at_165 rfl ?_
        refine W.if_eq (pc' := 192) (pc2 := 170) at_167 (fun hz_ => absurd hz_ (by decide)) (fun _ => ?_)
        refine W.iload (pc' := 172) at_170 rfl ?_
        refine W.if_eq (pc' := 185) (pc2 := 175) at_172 (fun _ => ?_) (fun hz_ => absurd (rfl) hz_)
        refine W.aload (pc' := 187) at_185 rfl rfl ?_
        refine W.aload (pc' := 189) at_187 rfl rfl ?_
        refine W.callVirtual (pc' := 192) at_189 (tw 157 rfl) (tw 158 rfl) (tw 160 rfl) (tw 159 rfl) (tw 75 rfl) (tw 161 rfl) rfl rfl (m_FreeWindow_pairWith_A_3 hw hst) (lenOf pd16 rfl) rfl (by first | rfl | (simp [scS, sc, *]; done) | (simp [scS, sc]; omega)) rfl rfl rfl (by decide) (by decide) (fun v G' hQ => ?_)
        obtain ⟨rfl, rfl⟩ := hQ
        try simp only [List.length_cons, List.length_nil, Nat.reduceAdd, Nat.zero_add, List.cons_append, List.nil_append, List.set_cons_zero, List.set_cons_succ, Option.toList]
        refine W.iload (pc' := 194) at_192 rfl ?_
        refine W.if_eq (pc' := 204) (pc2 := 197) at_194 (fun _ => ?_) (fun hz_ => absurd (rfl) hz_)
        refine W.iload (pc' := 206) at_204 rfl ?_
        refine W.if_ne (pc' := 232) (pc2 := 209) at_206 (fun hz_ => absurd hz_ (by decide)) (fun _ => ?_)
        refine W.iload (pc' := 234) at_232 rfl ?_
        refine W.if_eq (pc' := 260) (pc2 := 237) at_234 (fun _ => ?_) (fun hz_ => absurd (rfl) hz_)
        refine W.iload (pc' := 262) at_260 rfl ?_
        refine W.if_ne (pc' := 288) (pc2 := 265) at_262 (fun _ => ?_) (fun hz_ => absurd (rfl) hz_)
        refine W.aconstNull (pc' := 266) at_265 ?_
        refine W.astore (pc' := 268) at_266 rfl rfl ?_
        try simp only [List.length_cons, List.length_nil, Nat.reduceAdd, Nat.zero_add, List.cons_append, List.nil_append, List.set_cons_zero, List.set_cons_succ, Option.toList]
        refine W.aload (pc' := 270) at_268 rfl rfl ?_
        refine W.astore (pc' := 272) at_270 rfl rfl ?_
        try simp only [List.length_cons, List.length_nil, Nat.reduceAdd, Nat.zero_add, List.cons_append, List.nil_append, List.set_cons_zero, List.set_cons_succ, Option.toList]
        refine W.aload (pc' := 274) at_272 rfl rfl ?_
        refine W.astore (pc' := 276) at_274 rfl rfl ?_
        try simp only [List.length_cons, List.length_nil, Nat.reduceAdd, Nat.zero_add, List.cons_append, List.nil_append, List.set_cons_zero, List.set_cons_succ, Option.toList]
        refine W.iconst (pc' := 277) (0) at_276 rfl ?_
        refine W.istore (pc' := 279) at_277 rfl ?_
        try simp only [List.length_cons, List.length_nil, Nat.reduceAdd, Nat.zero_add, List.cons_append, List.nil_append, List.set_cons_zero, List.set_cons_succ, Option.toList]
        refine W.iconst (pc' := 280) (1) at_279 rfl ?_
        refine W.istore (pc' := 282) at_280 rfl ?_
        try simp only [List.length_cons, List.length_nil, Nat.reduceAdd, Nat.zero_add, List.cons_append, List.nil_append, List.set_cons_zero, List.set_cons_succ, Option.toList]
        refine W.iconst (pc' := 283) (0) at_282 rfl ?_
        refine W.istore (pc' := 285) at_283 rfl ?_
        try simp only [List.length_cons, List.length_nil, Nat.reduceAdd, Nat.zero_add, List.cons_append, List.nil_append, List.set_cons_zero, List.set_cons_succ, Option.toList]
        refine W.goto (pc' := 308) at_285 ?_
        refine W.aload (pc' := 310) at_308 rfl rfl ?_
        refine W.aload (pc' := 312) at_310 rfl rfl ?_
        refine W.iload (pc' := 314) at_312 rfl ?_
        refine W.aload (pc' := 316) at_314 rfl rfl ?_
        refine W.iload (pc' := 318) at_316 rfl ?_
        refine W.iload (pc' := 320) at_318 rfl ?_
        refine W.iload (pc' := 322) at_320 rfl ?_
        refine W.iload (pc' := 324) at_322 rfl ?_
        refine W.callStatic (pc' := 327) at_324 (tw 166 rfl) (tw 167 rfl) (tw 168 rfl) (tw 169 rfl) (m_check_n hw hst rfl (own_inI i0 i1 i2 i3) rfl) (lenOf pd17 rfl) rfl (by first | rfl | (simp [scS, sc, *]; done) | (simp [scS, sc]; omega)) rfl rfl rfl (by decide) (by decide) (fun v G' hQ => ?_)
        obtain ⟨rfl, rfl⟩ := hQ
        try simp only [List.length_cons, List.length_nil, Nat.reduceAdd, Nat.zero_add, List.cons_append, List.nil_append, List.set_cons_zero, List.set_cons_succ, Option.toList]
        refine W.if_eq (pc' := 378) (pc2 := 330) at_327 (fun hz_ => absurd hz_ (by decide)) (fun _ => ?_)
        refine W.aload (pc' := 332) at_330 rfl rfl ?_
        refine W.aload (pc' := 334) at_332 rfl rfl ?_
        refine W.iload (pc' := 336) at_334 rfl ?_
        refine W.aload (pc' := 338) at_336 rfl rfl ?_
        refine W.iload (pc' := 340) at_338 rfl ?_
        refine W.iload (pc' := 342) at_340 rfl ?_
        refine W.iload (pc' := 344) at_342 rfl ?_
        refine W.iload (pc' := 346) at_344 rfl ?_
        refine W.callStatic (pc' := 349) at_346 (tw 166 rfl) (tw 167 rfl) (tw 168 rfl) (tw 169 rfl) (m_check_1 hw hst rfl (own_inI i0 i1 i2 i3) rfl (by simp)) (lenOf pd17 rfl) rfl (by first | rfl | (simp [scS, sc, *]; done) | (simp [scS, sc]; omega)) rfl rfl rfl (by decide) (by decide) (fun v G' hQ => ?_)
        obtain ⟨rfl, rfl⟩ := hQ
        try simp only [List.length_cons, List.length_nil, Nat.reduceAdd, Nat.zero_add, List.cons_append, List.nil_append, List.set_cons_zero, List.set_cons_succ, Option.toList]
        refine W.if_eq (pc' := 378) (pc2 := 352) at_349 (fun hz_ => absurd hz_ (by decide)) (fun _ => ?_)
        refine W.aload (pc' := 354) at_352 rfl rfl ?_
        refine W.aload (pc' := 356) at_354 rfl rfl ?_
        refine W.iload (pc' := 358) at_356 rfl ?_
        refine W.aload (pc' := 360) at_358 rfl rfl ?_
        refine W.iload (pc' := 362) at_360 rfl ?_
        refine W.iload (pc' := 364) at_362 rfl ?_
        refine W.iload (pc' := 366) at_364 rfl ?_
        refine W.iload (pc' := 368) at_366 rfl ?_
        refine W.callStatic (pc' := 371) at_368 (tw 166 rfl) (tw 167 rfl) (tw 168 rfl) (tw 169 rfl) (m_check_0 hw hst rfl (own_inI i0 i1 i2 i3) rfl (by simp)) (lenOf pd17 rfl) rfl (by first | rfl | (simp [scS, sc, *]; done) | (simp [scS, sc]; omega)) rfl rfl rfl (by decide) (by decide) (fun v G' hQ => ?_)
        obtain ⟨rfl, rfl⟩ := hQ
        try simp only [List.length_cons, List.length_nil, Nat.reduceAdd, Nat.zero_add, List.cons_append, List.nil_append, List.set_cons_zero, List.set_cons_succ, Option.toList]
        refine W.if_eq (pc' := 378) (pc2 := 374) at_371 (fun hz_ => absurd hz_ (by decide)) (fun _ => ?_)
        refine W.iconst (pc' := 375) (1) at_374 rfl ?_
        refine W.goto (pc' := 379) at_375 ?_
        refine W.zreturn at_379 (by decide) (by decide) (by decide) ?_
        rfl
      · refine W.iconst (pc' := 152) (1) at_151 rfl ?_
        refine W.goto (pc' := 156) at_152 ?_
        refine W.istore (pc' := 158) at_156 rfl ?_
        try simp only [List.length_cons, List.length_nil, Nat.reduceAdd, Nat.zero_add, List.cons_append, List.nil_append, List.set_cons_zero, List.set_cons_succ, Option.toList]
        refine W.aload (pc' := 160) at_158 rfl rfl ?_
        refine W.aload (pc' := 162) at_160 rfl rfl ?_
        refine W.callVirtual (pc' := 165) at_162 (tw 157 rfl) (tw 158 rfl) (tw 160 rfl) (tw 159 rfl) (tw 75 rfl) (tw 161 rfl) rfl rfl (m_FreeWindow_pairWith_A_1 hw hst) (lenOf pd16 rfl) rfl (by first | rfl | (simp [scS, sc, *]; done) | (simp [scS, sc]; omega)) rfl rfl rfl (by decide) (by decide) (fun v G' hQ => ?_)
        obtain ⟨rfl, rfl⟩ := hQ
        try simp only [List.length_cons, List.length_nil, Nat.reduceAdd, Nat.zero_add, List.cons_append, List.nil_append, List.set_cons_zero, List.set_cons_succ, Option.toList]
        refine W.iload (pc' := 167) at_165 rfl ?_
        refine W.if_eq (pc' := 192) (pc2 := 170) at_167 (fun hz_ => absurd hz_ (by decide)) (fun _ => ?_)
        refine W.iload (pc' := 172) at_170 rfl ?_
        refine W.if_eq (pc' := 185) (pc2 := 175) at_172 (fun _ => ?_) (fun hz_ => absurd (rfl) hz_)
        refine W.aload (pc' := 187) at_185 rfl rfl ?_
        refine W.aload (pc' := 189) at_187 rfl rfl ?_
        refine W.callVirtual (pc' := 192) at_189 (tw 157 rfl) (tw 158 rfl) (tw 160 rfl) (tw 159 rfl) (tw 75 rfl) (tw 161 rfl) rfl rfl (m_FreeWindow_pairWith_A_3 hw hst) (lenOf pd16 rfl) rfl (by first | rfl | (simp [scS, sc, *]; done) | (simp [scS, sc]; omega)) rfl rfl rfl (by decide) (by decide) (fun v G' hQ => ?_)
        obtain ⟨rfl, rfl⟩ := hQ
        try simp only [List.length_cons, List.length_nil, Nat.reduceAdd, Nat.zero_add, List.cons_append, List.nil_append, List.set_cons_zero, List.set_cons_succ, Option.toList]
        refine W.iload (pc' := 194) at_192 rfl ?_
        refine W.if_eq (pc' := 204) (pc2 := 197) at_194 (fun hz_ => absurd hz_ (by decide)) (fun _ => ?_)
        refine W.aload (pc' := 199) at_197 rfl rfl ?_
        refine W.aload (pc' := 201) at_199 rfl rfl ?_
        refine W.callVirtual (pc' := 204) at_201 (tw 157 rfl) (tw 158 rfl) (tw 160 rfl) (tw 159 rfl) (tw 75 rfl) (tw 161 rfl) rfl rfl (m_FreeWindow_pairWith_A_4 hw hst) (lenOf pd16 rfl) rfl (by first | rfl | (simp [scS, sc, *]; done) | (simp [scS, sc]; omega)) rfl rfl rfl (by decide) (by decide) (fun v G' hQ => ?_)
        obtain ⟨rfl, rfl⟩ := hQ
        try simp only [List.length_cons, List.length_nil, Nat.reduceAdd, Nat.zero_add, List.cons_append, List.nil_append, List.set_cons_zero, List.set_cons_succ, Option.toList]
        refine W.iload (pc' := 206) at_204 rfl ?_
        refine W.if_ne (pc' := 232) (pc2 := 209) at_206 (fun hz_ => absurd hz_ (by decide)) (fun _ => ?_)
        refine W.iload (pc' := 234) at_232 rfl ?_
        refine W.if_eq (pc' := 260) (pc2 := 237) at_234 (fun _ => ?_) (fun hz_ => absurd (rfl) hz_)
        refine W.iload (pc' := 262) at_260 rfl ?_
        refine W.if_ne (pc' := 288) (pc2 := 265) at_262 (fun hz_ => absurd hz_ (by decide)) (fun _ => ?_)
        refine W.aload (pc' := 290) at_288 rfl rfl ?_
        refine W.astore (pc' := 292) at_290 rfl rfl ?_
        try simp only [List.length_cons, List.length_nil, Nat.reduceAdd, Nat.zero_add, List.cons_append, List.nil_append, List.set_cons_zero, List.set_cons_succ, Option.toList]
        refine W.aconstNull (pc' := 293) at_292 ?_
        refine W.astore (pc' := 295) at_293 rfl rfl ?_
        try simp only [List.length_cons, List.length_nil, Nat.reduceAdd, Nat.zero_add, List.cons_append, List.nil_append, List.set_cons_zero, List.set_cons_succ, Option.toList]
        refine W.aload (pc' := 297) at_295 rfl rfl ?_
        refine W.astore (pc' := 299) at_297 rfl rfl ?_
        try simp only [List.length_cons, List.length_nil, Nat.reduceAdd, Nat.zero_add, List.cons_append, List.nil_append, List.set_cons_zero, List.set_cons_succ, Option.toList]
        refine W.iconst (pc' := 300) (0) at_299 rfl ?_
        refine W.istore (pc' := 302) at_300 rfl ?_
        try simp only [List.length_cons, List.length_nil, Nat.reduceAdd, Nat.zero_add, List.cons_append, List.nil_append, List.set_cons_zero, List.set_cons_succ, Option.toList]
        refine W.iconst (pc' := 303) (0) at_302 rfl ?_
        refine W.istore (pc' := 305) at_303 rfl ?_
        try simp only [List.length_cons, List.length_nil, Nat.reduceAdd, Nat.zero_add, List.cons_append, List.nil_append, List.set_cons_zero, List.set_cons_succ, Option.toList]
        refine W.iconst (pc' := 306) (1) at_305 rfl ?_
        refine W.istore (pc' := 308) at_306 rfl ?_
        try simp only [List.length_cons, List.length_nil, Nat.reduceAdd, Nat.zero_add, List.cons_append, List.nil_append, List.set_cons_zero, List.set_cons_succ, Option.toList]
        refine W.aload (pc' := 310) at_308 rfl rfl ?_
        refine W.aload (pc' := 312) at_310 rfl rfl ?_
        refine W.iload (pc' := 314) at_312 rfl ?_
        refine W.aload (pc' := 316) at_314 rfl rfl ?_
        refine W.iload (pc' := 318) at_316 rfl ?_
        refine W.iload (pc' := 320) at_318 rfl ?_
        refine W.iload (pc' := 322) at_320 rfl ?_
        refine W.iload (pc' := 324) at_322 rfl ?_
        refine W.callStatic (pc' := 327) at_324 (tw 166 rfl) (tw 167 rfl) (tw 168 rfl) (tw 169 rfl) (m_check_0 hw hst rfl (own_inI i0 i1 i2 i3) rfl (by simp)) (lenOf pd17 rfl) rfl (by first | rfl | (simp [scS, sc, *]; done) | (simp [scS, sc]; omega)) rfl rfl rfl (by decide) (by decide) (fun v G' hQ => ?_)
        obtain ⟨rfl, rfl⟩ := hQ
        try simp only [List.length_cons, List.length_nil, Nat.reduceAdd, Nat.zero_add, List.cons_append, List.nil_append, List.set_cons_zero, List.set_cons_succ, Option.toList]
        refine W.if_eq (pc' := 378) (pc2 := 330) at_327 (fun hz_ => absurd hz_ (by decide)) (fun _ => ?_)
        refine W.aload (pc' := 332) at_330 rfl rfl ?_
        refine W.aload (pc' := 334) at_332 rfl rfl ?_
        refine W.iload (pc' := 336) at_334 rfl ?_
        refine W.aload (pc' := 338) at_336 rfl rfl ?_
        refine W.iload (pc' := 340) at_338 rfl ?_
        refine W.iload (pc' := 342) at_340 rfl ?_
        refine W.iload (pc' := 344) at_342 rfl ?_
        refine W.iload (pc' := 346) at_344 rfl ?_
        refine W.callStatic (pc' := 349) at_346 (tw 166 rfl) (tw 167 rfl) (tw 168 rfl) (tw 169 rfl) (m_check_n hw hst rfl (own_inI i0 i1 i2 i3) rfl) (lenOf pd17 rfl) rfl (by first | rfl | (simp [scS, sc, *]; done) | (simp [scS, sc]; omega)) rfl rfl rfl (by decide) (by decide) (fun v G' hQ => ?_)
        obtain ⟨rfl, rfl⟩ := hQ
        try simp only [List.length_cons, List.length_nil, Nat.reduceAdd, Nat.zero_add, List.cons_append, List.nil_append, List.set_cons_zero, List.set_cons_succ, Option.toList]
        refine W.if_eq (pc' := 378) (pc2 := 352) at_349 (fun hz_ => absurd hz_ (by decide)) (fun _ => ?_)
        refine W.aload (pc' := 354) at_352 rfl rfl ?_
        refine W.aload (pc' := 356) at_354 rfl rfl ?_
        refine W.iload (pc' := 358) at_356 rfl ?_
        refine W.aload (pc' := 360) at_358 rfl rfl ?_
        refine W.iload (pc' := 362) at_360 rfl ?_
        refine W.iload (pc' := 364) at_362 rfl ?_
        refine W.iload (pc' := 366) at_364 rfl ?_
        refine W.iload (pc' := 368) at_366 rfl ?_
        refine W.callStatic (pc' := 371) at_368 (tw 166 rfl) (tw 167 rfl) (tw 168 rfl) (tw 169 rfl) (m_check_1 hw hst rfl (own_inI i0 i1 i2 i3) rfl (by simp)) (lenOf pd17 rfl) rfl (by first | rfl | (simp [scS, sc, *]; done) | (simp [scS, sc]; omega)) rfl rfl rfl (by decide) (by decide) (fun v G' hQ => ?_)
        obtain ⟨rfl, rfl⟩ := hQ
        try simp only [List.length_cons, List.length_nil, Nat.reduceAdd, Nat.zero_add, List.cons_append, List.nil_append, List.set_cons_zero, List.set_cons_succ, Option.toList]
        refine W.if_eq (pc' := 378) (pc2 := 374) at_371 (fun hz_ => absurd hz_ (by decide)) (fun _ => ?_)
        refine W.iconst (pc' := 375) (1) at_374 rfl ?_
        refine W.goto (pc' := 379) at_375 ?_
        refine W.zreturn at_379 (by decide) (by decide) (by decide) ?_
        rfl
    · refine W.iconst (pc' := 128) (1) at_127 rfl ?_
      refine W.goto (pc' := 132) at_128 ?_
      refine W.istore (pc' := 134) at_132 rfl ?_
      try simp only [List.length_cons, List.length_nil, Nat.reduceAdd, Nat.zero_add, List.cons_append, List.nil_append, List.set_cons_zero, List.set_cons_succ, Option.toList]
      refine W.iload (pc' := 136) at_134 rfl ?_
      refine W.if_eq (pc' := 155) (pc2 := 139) at_136 (fun hz_ => absurd hz_ (by decide)) (fun _ => ?_)
      refine W.iload (pc' := 141) at_139 rfl ?_
      refine W.if_ne (pc' := 155) (pc2 := 144) at_141 (fun hz_ => absurd hz_ (by decide)) (fun _ => ?_)
      refine W.iconst (pc' := 156) (0) at_155 rfl ?_
      refine W.istore (pc' := 158) at_156 rfl ?_
      try simp only [List.length_cons, List.length_nil, Nat.reduceAdd, Nat.zero_add, List.cons_append, List.nil_append, List.set_cons_zero, List.set_cons_succ, Option.toList]
      refine W.aload (pc' := 160) at_158 rfl rfl ?_
      refine W.aload (pc' := 162) at_160 rfl rfl ?_
      refine W.callVirtual (pc' := 165) at_162 (tw 157 rfl) (tw 158 rfl) (tw 160 rfl) (tw 159 rfl) (tw 75 rfl) (tw 161 rfl) rfl rfl (m_FreeWindow_pairWith_A_1 hw hst) (lenOf pd16 rfl) rfl (by first | rfl | (simp [scS, sc, *]; done) | (simp [scS, sc]; omega)) rfl rfl rfl (by decide) (by decide) (fun v G' hQ => ?_)
      obtain ⟨rfl, rfl⟩ := hQ
      try simp only [List.length_cons, List.length_nil, Nat.reduceAdd, Nat.zero_add, List.cons_append, List.nil_append, List.set_cons_zero, List.set_cons_succ, Option.toList]
      refine W.iload (pc' := 167) at_165 rfl ?_
      refine W.if_eq (pc' := 192) (pc2 := 170) at_167 (fun hz_ => absurd hz_ (by decide)) (fun _ => ?_)
      refine W.iload (pc' := 172) at_170 rfl ?_
      refine W.if_eq (pc' := 185) (pc2 := 175) at_172 (fun hz_ => absurd hz_ (by decide)) (fun _ => ?_)
      refine W.aload (pc' := 177) at_175 rfl rfl ?_
      refine W.aload (pc' := 179) at_177 rfl rfl ?_
      refine W.callVirtual (pc' := 182) at_179 (tw 157 rfl) (tw 158 rfl) (tw 160 rfl) (tw 159 rfl) (tw 75 rfl) (tw 161 rfl) rfl rfl (m_FreeWindow_pairWith_A_2 hw hst) (lenOf pd16 rfl) rfl (by first | rfl | (simp [scS, sc, *]; done) | (simp [scS, sc]; omega)) rfl rfl rfl (by decide) (by decide) (fun v G' hQ => ?_)
      obtain ⟨rfl, rfl⟩ := hQ
      try simp only [List.length_cons, List.length_nil, Nat.reduceAdd, Nat.zero_add, List.cons_append, List.nil_append, List.set_cons_zero, List.set_cons_succ, Option.toList]
      refine W.goto (pc' := 192) at_182 ?_
      refine W.iload (pc' := 194) at_192 rfl ?_
      refine W.if_eq (pc' := 204) (pc2 := 197) at_194 (fun _ => ?_) (fun hz_ => absurd (rfl) hz_)
      refine W.iload (pc' := 206) at_204 rfl ?_
      refine W.if_ne (pc' := 232) (pc2 := 209) at_206 (fun hz_ => absurd hz_ (by decide)) (fun _ => ?_)
      refine W.iload (pc' := 234) at_232 rfl ?_
      refine W.if_eq (pc' := 260) (pc2 := 237) at_234 (fun hz_ => absurd hz_ (by decide)) (fun _ => ?_)
      refine W.aload (pc' := 239) at_237 rfl rfl ?_
      refine W.astore (pc' := 241) at_239 rfl rfl ?_
      try simp only [List.length_cons, List.length_nil, Nat.reduceAdd, Nat.zero_add, List.cons_append, List.nil_append, List.set_cons_zero, List.set_cons_succ, Option.toList]
      refine W.aconstNull (pc' := 242) at_241 ?_
      refine W.astore (pc' := 244) at_242 rfl rfl ?_
      try simp only [List.length_cons, List.length_nil, Nat.reduceAdd, Nat.zero_add, List.cons_append, List.nil_append, List.set_cons_zero, List.set_cons_succ, Option.toList]
      refine W.aload (pc' := 246) at_244 rfl rfl ?_
      refine W.astore (pc' := 248) at_246 rfl rfl ?_
      try simp only [List.length_cons, List.length_nil, Nat.reduceAdd, Nat.zero_add, List.cons_append, List.nil_append, List.set_cons_zero, List.set_cons_succ, Option.toList]
      refine W.iconst (pc' := 249) (1) at_248 rfl ?_
      refine W.istore (pc' := 251) at_249 rfl ?_
      try simp only [List.length_cons, List.length_nil, Nat.reduceAdd, Nat.zero_add, List.cons_append, List.nil_append, List.set_cons_zero, List.set_cons_succ, Option.toList]
      refine W.iconst (pc' := 252) (0) at_251 rfl ?_
      refine W.istore (pc' := 254) at_252 rfl ?_
      try simp only [List.length_cons, List.length_nil, Nat.reduceAdd, Nat.zero_add, List.cons_append, List.nil_append, List.set_cons_zero, List.set_cons_succ, Option.toList]
      refine W.iconst (pc' := 255) (0) at_254 rfl ?_
      refine W.istore (pc' := 257) at_255 rfl ?_
      try simp only [List.length_cons, List.length_nil, Nat.reduceAdd, Nat.zero_add, List.cons_append, List.nil_append, List.set_cons_zero, List.set_cons_succ, Option.toList]
      refine W.goto (pc' := 308) at_257 ?_
      refine W.aload (pc' := 310) at_308 rfl rfl ?_
      refine W.aload (pc' := 312) at_310 rfl rfl ?_
      refine W.iload (pc' := 314) at_312 rfl ?_
      refine W.aload (pc' := 316) at_314 rfl rfl ?_
      refine W.iload (pc' := 318) at_316 rfl ?_
      refine W.iload (pc' := 320) at_318 rfl ?_
      refine W.iload (pc' := 322) at_320 rfl ?_
      refine W.iload (pc' := 324) at_322 rfl ?_
      refine W.callStatic (pc' := 327) at_324 (tw 166 rfl) (tw 167 rfl) (tw 168 rfl) (tw 169 rfl) (m_check_1 hw hst rfl (own_inI i0 i1 i2 i3) rfl (by simp)) (lenOf pd17 rfl) rfl (by first | rfl | (simp [scS, sc, *]; done) | (simp [scS, sc]; omega)) rfl rfl rfl (by decide) (by decide) (fun v G' hQ => ?_)
      obtain ⟨rfl, rfl⟩ := hQ
      try simp only [List.length_cons, List.length_nil, Nat.reduceAdd, Nat.zero_add, List.cons_append, List.nil_append, List.set_cons_zero, List.set_cons_succ, Option.toList]
      refine W.if_eq (pc' := 378) (pc2 := 330) at_327 (fun hz_ => absurd hz_ (by decide)) (fun _ => ?_)
      refine W.aload (pc' := 332) at_330 rfl rfl ?_
      refine W.aload (pc' := 334) at_332 rfl rfl ?_
      refine W.iload (pc' := 336) at_334 rfl ?_
      refine W.aload (pc' := 338) at_336 rfl rfl ?_
      refine W.iload (pc' := 340) at_338 rfl ?_
      refine W.iload (pc' := 342) at_340 rfl ?_
      refine W.iload (pc' := 344) at_342 rfl ?_
      refine W.iload (pc' := 346) at_344 rfl ?_
      refine W.callStatic (pc' := 349) at_346 (tw 166 rfl) (tw 167 rfl) (tw 168 rfl) (tw 169 rfl) (m_check_n hw hst rfl (own_inI i0 i1 i2 i3) rfl) (lenOf pd17 rfl) rfl (by first | rfl | (simp [scS, sc, *]; done) | (simp [scS, sc]; omega)) rfl rfl rfl (by decide) (by decide) (fun v G' hQ => ?_)
      obtain ⟨rfl, rfl⟩ := hQ
      try simp only [List.length_cons, List.length_nil, Nat.reduceAdd, Nat.zero_add, List.cons_append, List.nil_append, List.set_cons_zero, List.set_cons_succ, Option.toList]
      refine W.if_eq (pc' := 378) (pc2 := 352) at_349 (fun hz_ => absurd hz_ (by decide)) (fun _ => ?_)
      refine W.aload (pc' := 354) at_352 rfl rfl ?_
      refine W.aload (pc' := 356) at_354 rfl rfl ?_
      refine W.iload (pc' := 358) at_356 rfl ?_
      refine W.aload (pc' := 360) at_358 rfl rfl ?_
      refine W.iload (pc' := 362) at_360 rfl ?_
      refine W.iload (pc' := 364) at_362 rfl ?_
      refine W.iload (pc' := 366) at_364 rfl ?_
      refine W.iload (pc' := 368) at_366 rfl ?_
      refine W.callStatic (pc' := 371) at_368 (tw 166 rfl) (tw 167 rfl) (tw 168 rfl) (tw 169 rfl) (m_check_0 hw hst rfl (own_inI i0 i1 i2 i3) rfl (by simp)) (lenOf pd17 rfl) rfl (by first | rfl | (simp [scS, sc, *]; done) | (simp [scS, sc]; omega)) rfl rfl rfl (by decide) (by decide) (fun v G' hQ => ?_)
      obtain ⟨rfl, rfl⟩ := hQ
      try simp only [List.length_cons, List.length_nil, Nat.reduceAdd, Nat.zero_add, List.cons_append, List.nil_append, List.set_cons_zero, List.set_cons_succ, Option.toList]
      refine W.if_eq (pc' := 378) (pc2 := 374) at_371 (fun hz_ => absurd hz_ (by decide)) (fun _ => ?_)
      refine W.iconst (pc' := 375) (1) at_374 rfl ?_
      refine W.goto (pc' := 379) at_375 ?_
      refine W.zreturn at_379 (by decide) (by decide) (by decide) ?_
      rfl
theorem start_rep (s : State) {oa : Addr} {cl : Cell} (A : Arr s s.heap oa cl (.object "java/lang/Object")) (hz : cl.slots.size = 0) : Rep sg s s.heap.size [oa] (fun _ => oa) s.heap [(.inr (.object "java/lang/Object"), [])] := by
  refine ⟨rfl, ⟨Nat.le_refl _, fun _ _ h => h⟩, fun k a h => ?_, Nat.le_refl _, fun k o h hk => ?_, fun k k' o o' h h' _ _ _ => ?_, fun k o h v hv => ?_⟩
  · cases k with
    | zero => cases h; exact ⟨rfl, A.lt⟩
    | succ k => cases h
  · cases k with
    | zero => cases h; exact ⟨⟨cl, A, by simpa using hz, by decide, (fun v hv => by cases hv), (fun q => absurd rfl q)⟩, (fun q => absurd q (Nat.not_succ_le_zero 0)), A.lt⟩
    | succ k => cases h
  · cases k with
    | zero => cases k' with
      | zero => rfl
      | succ k' => cases h'
    | succ k => cases h
  · cases k with
    | zero => cases h; cases hv
    | succ k => cases h
theorem start_len {s : State} {args : Array Value} {t : Term} {oa : Addr} {cl : Cell} {ty : FieldType} (eA : t.eval args s none [] s = some (.ref oa)) (A : Arr s s.heap oa cl ty) (h : (Cond.eq (Term.length t) (Term.int 0)).value args s none s [] = some true) : cl.slots.size = 0 := by
  have ha := A.fin (Vm.Alike.refl _)
  obtain ⟨v, hv⟩ : ∃ v, (Term.length t).eval args s none [] s = some v := by
    cases q : (Term.length t).eval args s none [] s with
    | some v => exact ⟨v, rfl⟩
    | none => simp [Cond.value, q] at h
  have hlt : cl.slots.size < 2 ^ 31 := by
    simp [Term.eval, eA, ha] at hv
    exact hv.1
  have el := len_f eA ha hlt
  have e0 : cl.slots.size.toInt32 = 0 := by
    have := gotT (Cond.eq_ints el (Term.int_eval (0))) h
    exact this
  have := congrArg Int32.toInt e0
  rw [len_toInt hlt] at this
  simpa using this
set_option maxRecDepth 65536 in
set_option maxHeartbeats 4000000 in
theorem comes_1 {Post : Tables → Env → Array Value → State → Outcome → State → Prop} (hpost : ∀ tb e args s v u, (limb_1_1.after args s (.returned v) u = true ∧ limb_1_2.after args s (.returned v) u = true ∧ True) → FramedW s (.returned v) u (Jvm.fieldLocs frame_1_writes args s ++ Jvm.arrayLocs frame_1_arrays args s ++ Jvm.staticLocs frame_1_statics s) 56 4416 → Post tb e args s (.returned v) u) :
    ArmFor flags0 classFile x code maxLocals ret World_1 tables_1 room_1 Calls_1 rest_1 Pre_1 Post := by
  intro l hfl _ _ p e ha hc hk s m args below hf hA hF happ hP
  obtain ⟨hcalls, hrest, hpre⟩ := hP
  obtain ⟨-, -, -, hnamed, -, -, -, hat⟩ := (Spec.applies_iff hf).mp happ
  obtain ⟨hg, hn⟩ := and_e (Cond.before_iff.mp (show (Jvm.Cond.and given_1 narrow_1).before args s = true from hpre))
  obtain ⟨g0, h0⟩ := and_e hg
  obtain ⟨w0, w1, w2, w3, w4, rfl⟩ : ∃ w0 w1 w2 w3 w4 : Value, args = #[w0, w1, w2, w3, w4] := by
    have hs : args.size = 5 := by simpa [Cond.value, given_1] using g0
    obtain ⟨L⟩ := args
    match L, hs with
    | [w0, w1, w2, w3, w4], _ => exact ⟨w0, w1, w2, w3, w4, rfl⟩
  have hw := fun d (hd : d ∈ tables_1) => atoms_spec (ws := Jvm.Cond.code x code maxLocals ret :: tables_1) hat d (List.mem_cons_of_mem _ hd)
  obtain ⟨hsets, hown0⟩ := atoms_of _ (rest_1_c_eq ▸ (show rest_1_c.before _ s = true from hrest))
  obtain ⟨g1, h1⟩ := and_e h0
  obtain ⟨i0, e0⟩ := is_v g1
  obtain rfl : w0 = (.int i0) := Option.some.inj e0
  obtain ⟨g2, h2⟩ := and_e h1
  obtain ⟨i1, e1⟩ := is_v g2
  obtain rfl : w1 = (.int i1) := Option.some.inj e1
  obtain ⟨g3, h3⟩ := and_e h2
  obtain ⟨i2, e2⟩ := is_v g3
  obtain rfl : w2 = (.int i2) := Option.some.inj e2
  obtain ⟨g4, h4⟩ := and_e h3
  obtain ⟨i3, e3⟩ := is_v g4
  obtain rfl : w3 = (.int i3) := Option.some.inj e3
  obtain ⟨i4, e4⟩ := is_v h4
  obtain rfl : w4 = (.int i4) := Option.some.inj e4
  have wA := Cond.before_iff.mp (hsets _ (List.mem_of_getElem? (i := 6) rfl))
  obtain ⟨oa, eA⟩ := arr_v wA
  obtain ⟨cl, A⟩ := Arr.start eA wA
  have hst : Sta s s.heap "java/util/ArrayList" "DEFAULTCAPACITY_EMPTY_ELEMENTDATA" "[Ljava/lang/Object;" (.ref oa) := Sta.start eA (Or.inr ⟨hw _ (tw 20 rfl), hsets _ (List.mem_of_getElem? (i := 2) rfl)⟩)
  have wL := Cond.before_iff.mp (hsets _ (List.mem_of_getElem? (i := 8) rfl))
  have hz : cl.slots.size = 0 := start_len eA A wL
  obtain ⟨n, o, q1, q2, q3, _, L, rfl, ⟨ad', G', vg, rfl, -, -, -, -, rfl, N⟩, hq⟩ := m_law (l := l) (n0 := s.heap.size) hw hst i0 i1 i2 i3 i4 tables_1 s.heap (fun _ => oa) (start_rep s A hz) p e ha hc hk s m _ below hf ((Spec.applies_iff_loose hf).mp happ).1 ⟨rfl, State.Warmed39.refl s, rfl⟩ trivial
  refine ⟨n, _, q1, q2, q3, hpost _ _ _ _ _ _ ⟨Cond.after_iff.mpr rfl, Cond.after_iff.mpr (eq_i res_at (Term.int_eval (1)) rfl), trivial⟩ ⟨hq.1, hq.2.1, hq.2.2.1, (hq.2.2.2.sift fun y hy => Or.inr (N y hy)).mono (by decide) (by decide)⟩⟩
theorem main_1_1 : Claimed_1_1 := comes_1 fun _ _ _ _ _ _ h hF => ⟨h.1, hF⟩
theorem main_1_2 : Claimed_1_2 := comes_1 fun _ _ _ _ _ _ h hF => ⟨h.2.1, hF⟩
end Jvm.Pilot.@@N@@
namespace Jvm.Pilot.@@N@@
open Jvm Jvm.ClassFile Sem Op Lib Jvm.Free Jvm.Stand Jvm.Pilot.@@N@@.Jvm.D
/-! MADE BY PROGRAM (witnessworld.py) out of the Statement's table words and the real class files: 29 classes; the members and pool entries that the words name. The judged class is class 1, her method 1. -/
namespace start1
open Jvm.ClassFile
def u (s : String) : CpInfo := .utf8 (stringToUtf16 s)
/-- a pool by its gaps: so many unusable entries, then the entry; so many at the end -/
def gap : Nat → List CpInfo → List CpInfo
  | 0, r => r
  | n + 1, r => .unusable :: gap n r
def poolList (es : List (Nat × CpInfo)) (last : Nat) : List CpInfo := es.foldr (fun e r => gap e.1 (e.2 :: r)) (gap last [])
def pool (es : List (Nat × CpInfo)) (last : Nat) : Array CpInfo := ⟨poolList es last⟩
def fileOf (pool : Array CpInfo) (this : Nat) (attrs : Array Attribute := #[]) (ms : Array MethodInfo := #[]) (fl : Nat := 33) (sup : Nat := 0) (ifs : Array Nat := #[]) (fds : Array FieldInfo := #[]) : ClassFile where
  minorVersion := 0
  majorVersion := 65
  constantPool := pool
  accessFlags := fl
  thisClass := this
  superClass := sup
  interfaces := ifs
  fields := fds
  methods := ms
  attributes := attrs
def plain (name : String) (sup : Option ClassId) : Class where
  name := name
  kind := .ordinary
  loader := none
  accessFlags := 33
  super := sup
  interfaces := #[]
  cf := none
  fields := #[]
  methods := #[]
  instanceTypes := #[]
  staticTypes := #[]
  resolved := #[]
  callSites := []
  init := .initialized
  statics := none
  mirror := none

def pool0 : Array CpInfo := pool [(5, u "<init>"), (0, u "()V"), (1, .class_ 10), (1, u "java/lang/Object")] 113

def k0c0 : Code := { maxStack := 0, maxLocals := 1, code := object_method_1_code, exceptionTable := #[], attributes := #[] }
def k0m0 : Method := { name := "<init>", desc := "()V", sig := { parameters := [], returnType := none }, accessFlags := 1, code := some k0c0 }
/-- java/lang/Object -/
def k0 : Class := { plain "java/lang/Object" none with
  accessFlags := 33
  interfaces := #[]
  cf := some (fileOf pool0 8 #[] #[{ accessFlags := 1, nameIndex := 5, descriptorIndex := 6, attributes := #[] }] 33 0 #[] #[])
  fields := #[]
  methods := #[k0m0]
  instanceTypes := #[]
  staticTypes := #[]
  resolved := Array.replicate 124 none
  statics := none }

def pool1 : Array CpInfo := pool [(2, .class_ 4), (1, u "java/lang/Object"), (0, u "<init>"), (0, u "()V"), (0, .integer 65535), (0, .class_ 9), (0, u "com/example/guest_panes/guestpanes/Display"), (0, .string 11), (0, u "d"), (0, .methodref 8 13), (0, .nameAndType 5 14), (0, u "(Ljava/lang/String;III)V"), (0, .class_ 16), (0, u "com/example/guest_panes/guestpanes/Rect"), (0, .methodref 15 18), (0, .nameAndType 5 19), (0, u "(IIII)V"), (0, .class_ 21), (0, u "com/example/guest_panes/guestpanes/FreeWindow"), (0, .string 23), (0, u "a"), (0, .methodref 20 25), (0, .nameAndType 5 26), (0, u "(Ljava/lang/String;Lcom/example/guest_panes/guestpanes/Display;Lcom/example/guest_panes/guestpanes/Rect;)V"), (0, .string 28), (0, u "b"), (0, .string 30), (0, u "c"), (0, .methodref 20 32), (0, .nameAndType 33 34), (0, u "pairWith"), (0, u "(Lcom/example/guest_panes/guestpanes/FreeWindow;)V"), (0, .methodref 36 37), (0, .class_ 38), (0, .nameAndType 39 40), (0, u "com/example/guest_panes/guestpanes/FreeWindowPairWithPinLaw"), (0, u "check"), (0, u "(Lcom/example/guest_panes/guestpanes/FreeWindow;Lcom/example/guest_panes/guestpanes/FreeWindow;ZLcom/example/guest_panes/guestpanes/Rect;IIII)Z"), (0, .methodref 20 42), (0, .nameAndType 43 44), (0, u "partner"), (0, u "()Lcom/example/guest_panes/guestpanes/FreeWindow;"), (0, .methodref 20 46), (0, .nameAndType 47 48), (0, u "partnerBounds"), (0, u "(Lcom/example/guest_panes/guestpanes/Rect;)Lcom/example/guest_panes/guestpanes/Rect;"), (0, .methodref 15 50), (0, .nameAndType 51 52), (0, u "left"), (0, u "()I"), (0, .methodref 15 54), (0, .nameAndType 55 52), (0, u "top"), (0, .methodref 15 57), (0, .nameAndType 58 52), (0, u "right"), (0, .methodref 15 60), (0, .nameAndType 61 52), (0, u "bottom"), (2, u "law"), (0, u "(IIIII)Z")] 3

def k1m0 : Method := { name := "<init>", desc := "()V", sig := { parameters := [], returnType := none }, accessFlags := 1, code := none }
def k1c1 : Code := { maxStack := 8, maxLocals := 23, code := code, exceptionTable := #[], attributes := #[] }
def k1m1 : Method := { name := "law", desc := "(IIIII)Z", sig := { parameters := [.int, .int, .int, .int, .int], returnType := some .boolean }, accessFlags := 9, code := some k1c1 }
def k1c2 : Code := { maxStack := 3, maxLocals := 10, code := method_3_code, exceptionTable := #[], attributes := #[] }
def k1m2 : Method := { name := "check", desc := "(Lcom/example/guest_panes/guestpanes/FreeWindow;Lcom/example/guest_panes/guestpanes/FreeWindow;ZLcom/example/guest_panes/guestpanes/Rect;IIII)Z", sig := { parameters := [(.object "com/example/guest_panes/guestpanes/FreeWindow"), (.object "com/example/guest_panes/guestpanes/FreeWindow"), .boolean, (.object "com/example/guest_panes/guestpanes/Rect"), .int, .int, .int, .int], returnType := some .boolean }, accessFlags := 10, code := some k1c2 }
/-- com/example/guest_panes/guestpanes/FreeWindowPairWithPinLaw -/
def k1 : Class := { plain "com/example/guest_panes/guestpanes/FreeWindowPairWithPinLaw" (some 0) with
  accessFlags := 49
  interfaces := #[]
  cf := some (fileOf pool1 36 #[] #[{ accessFlags := 1, nameIndex := 5, descriptorIndex := 6, attributes := #[] }, { accessFlags := 9, nameIndex := 64, descriptorIndex := 65, attributes := #[] }, { accessFlags := 10, nameIndex := 39, descriptorIndex := 40, attributes := #[] }] 49 2 #[] #[])
  fields := #[]
  methods := #[k1m0, k1m1, k1m2]
  instanceTypes := #[]
  staticTypes := #[]
  resolved := Array.replicate 69 none
  statics := none }

def pool2 : Array CpInfo := pool [(1, .methodref 2 3), (0, .class_ 4), (0, .nameAndType 5 6), (0, u "java/lang/Object"), (0, u "<init>"), (0, u "()V"), (0, .class_ 8), (0, u "java/util/ArrayList"), (0, .methodref 7 3), (0, .fieldref 11 12), (0, .class_ 13), (0, .nameAndType 14 15), (0, u "com/example/guest_panes/guestpanes/Display"), (0, u "owners"), (0, u "Ljava/util/List;"), (0, .fieldref 11 17), (0, .nameAndType 18 19), (0, u "id"), (0, u "Ljava/lang/String;"), (0, .fieldref 11 21), (0, .nameAndType 22 23), (0, u "width"), (0, u "I"), (0, .fieldref 11 25), (0, .nameAndType 26 23), (0, u "height"), (0, .fieldref 11 28), (0, .nameAndType 29 23), (0, u "color"), (7, u "focus"), (0, u "Lcom/example/guest_panes/guestpanes/Window;"), (12, u "()I"), (60, u "(Ljava/lang/String;III)V")] 16

def k2c0 : Code := { maxStack := 3, maxLocals := 5, code := prog_6_method_1_code, exceptionTable := #[], attributes := #[] }
def k2m0 : Method := { name := "<init>", desc := "(Ljava/lang/String;III)V", sig := { parameters := [(.object "java/lang/String"), .int, .int, .int], returnType := none }, accessFlags := 0, code := some k2c0 }
def k2c1 : Code := { maxStack := 1, maxLocals := 1, code := prog_6_method_5_code, exceptionTable := #[], attributes := #[] }
def k2m1 : Method := { name := "color", desc := "()I", sig := { parameters := [], returnType := some .int }, accessFlags := 0, code := some k2c1 }
/-- com/example/guest_panes/guestpanes/Display -/
def k2 : Class := { plain "com/example/guest_panes/guestpanes/Display" (some 0) with
  accessFlags := 48
  interfaces := #[]
  cf := some (fileOf pool2 11 #[] #[{ accessFlags := 0, nameIndex := 5, descriptorIndex := 112, attributes := #[] }, { accessFlags := 0, nameIndex := 29, descriptorIndex := 51, attributes := #[] }] 48 2 #[] #[{ accessFlags := 18, nameIndex := 18, descriptorIndex := 19, attributes := #[] }, { accessFlags := 18, nameIndex := 22, descriptorIndex := 23, attributes := #[] }, { accessFlags := 18, nameIndex := 26, descriptorIndex := 23, attributes := #[] }, { accessFlags := 18, nameIndex := 29, descriptorIndex := 23, attributes := #[] }, { accessFlags := 18, nameIndex := 14, descriptorIndex := 15, attributes := #[] }, { accessFlags := 2, nameIndex := 37, descriptorIndex := 38, attributes := #[] }])
  fields := #[{ name := "id", type := (.object "java/lang/String"), accessFlags := 18, slot := 0, constantValue := 0 }, { name := "width", type := .int, accessFlags := 18, slot := 1, constantValue := 0 }, { name := "height", type := .int, accessFlags := 18, slot := 2, constantValue := 0 }, { name := "color", type := .int, accessFlags := 18, slot := 3, constantValue := 0 }, { name := "owners", type := (.object "java/util/List"), accessFlags := 18, slot := 4, constantValue := 0 }, { name := "focus", type := (.object "com/example/guest_panes/guestpanes/Window"), accessFlags := 2, slot := 5, constantValue := 0 }]
  methods := #[k2m0, k2m1]
  instanceTypes := #[(.object "java/lang/String"), .int, .int, .int, (.object "java/util/List"), (.object "com/example/guest_panes/guestpanes/Window")]
  staticTypes := #[]
  resolved := Array.replicate 129 none
  statics := none }

def pool3 : Array CpInfo := pool [(1, .class_ 2), (0, u "java/io/Serializable"), (0, .class_ 4), (0, u "java/lang/Object")] 2

/-- java/io/Serializable -/
def k3 : Class := { plain "java/io/Serializable" (some 0) with
  accessFlags := 1537
  interfaces := #[]
  cf := some (fileOf pool3 1 #[] #[] 1537 3 #[] #[])
  fields := #[]
  methods := #[]
  instanceTypes := #[]
  staticTypes := #[]
  resolved := Array.replicate 7 none
  statics := none }

def pool4 : Array CpInfo := pool [(1, .class_ 2), (0, u "java/lang/Comparable"), (0, .class_ 4), (0, u "java/lang/Object")] 7

/-- java/lang/Comparable -/
def k4 : Class := { plain "java/lang/Comparable" (some 0) with
  accessFlags := 1537
  interfaces := #[]
  cf := some (fileOf pool4 1 #[] #[] 1537 3 #[] #[])
  fields := #[]
  methods := #[]
  instanceTypes := #[]
  staticTypes := #[]
  resolved := Array.replicate 12 none
  statics := none }

def pool5 : Array CpInfo := pool [(2, .class_ 4), (1, u "java/lang/CharSequence"), (42, .class_ 48), (0, u "java/lang/CharSequence$1CodePointIterator"), (10, .class_ 60), (0, u "java/lang/CharSequence$1CharIterator"), (5, .class_ 67), (0, u "java/lang/Object")] 63

/-- java/lang/CharSequence -/
def k5 : Class := { plain "java/lang/CharSequence" (some 0) with
  accessFlags := 1537
  interfaces := #[]
  cf := some (fileOf pool5 2 #[.nestMembers #[47, 59]] #[] 1537 66 #[] #[])
  fields := #[]
  methods := #[]
  instanceTypes := #[]
  staticTypes := #[]
  resolved := Array.replicate 131 none
  statics := none }

def pool6 : Array CpInfo := pool [(1, .class_ 2), (0, u "java/lang/constant/Constable"), (0, .class_ 4), (0, u "java/lang/Object")] 6

/-- java/lang/constant/Constable -/
def k6 : Class := { plain "java/lang/constant/Constable" (some 0) with
  accessFlags := 1537
  interfaces := #[]
  cf := some (fileOf pool6 1 #[] #[] 1537 3 #[] #[])
  fields := #[]
  methods := #[]
  instanceTypes := #[]
  staticTypes := #[]
  resolved := Array.replicate 11 none
  statics := none }

def pool7 : Array CpInfo := pool [(1, .class_ 2), (0, u "java/lang/constant/ConstantDesc"), (0, .class_ 4), (0, u "java/lang/Object")] 32

/-- java/lang/constant/ConstantDesc -/
def k7 : Class := { plain "java/lang/constant/ConstantDesc" (some 0) with
  accessFlags := 1537
  interfaces := #[]
  cf := some (fileOf pool7 1 #[] #[] 1537 3 #[] #[])
  fields := #[]
  methods := #[]
  instanceTypes := #[]
  staticTypes := #[]
  resolved := Array.replicate 37 none
  statics := none }

def pool8 : Array CpInfo := pool [(2, .class_ 4), (1, u "java/lang/Object"), (0, u "<init>"), (0, u "()V"), (3, .class_ 12), (1, u "java/lang/String"), (0, u "value"), (0, u "[B"), (2, u "coder"), (0, u "B"), (2, u "hash"), (0, u "I"), (2, u "hashIsZero"), (0, u "Z"), (13, u "COMPACT_STRINGS"), (534, .class_ 576), (0, u "java/lang/CharSequence"), (22, u "CASE_INSENSITIVE_ORDER"), (0, u "Ljava/util/Comparator;"), (500, u "serialPersistentFields"), (0, u "[Ljava/io/ObjectStreamField;"), (0, .class_ 1104), (0, u "java/lang/String$CaseInsensitiveComparator"), (1, .class_ 1107), (0, u "java/io/Serializable"), (0, .class_ 1109), (0, u "java/lang/Comparable"), (0, .class_ 1111), (0, u "java/lang/constant/Constable"), (0, .class_ 1113), (0, u "java/lang/constant/ConstantDesc"), (2, u "serialVersionUID"), (0, u "J"), (3, u "REPL"), (0, u "C"), (2, u "LATIN1"), (1, u "UTF16")] 323

def k8m0 : Method := { name := "<init>", desc := "()V", sig := { parameters := [], returnType := none }, accessFlags := 1, code := none }
/-- java/lang/String -/
def k8 : Class := { plain "java/lang/String" (some 0) with
  accessFlags := 49
  interfaces := #[3, 4, 5, 6, 7]
  cf := some (fileOf pool8 10 #[.nestMembers #[1103]] #[{ accessFlags := 1, nameIndex := 5, descriptorIndex := 6, attributes := #[] }] 49 2 #[1106, 1108, 575, 1110, 1112] #[{ accessFlags := 18, nameIndex := 13, descriptorIndex := 14, attributes := #[] }, { accessFlags := 18, nameIndex := 17, descriptorIndex := 18, attributes := #[] }, { accessFlags := 2, nameIndex := 21, descriptorIndex := 22, attributes := #[] }, { accessFlags := 2, nameIndex := 25, descriptorIndex := 26, attributes := #[] }, { accessFlags := 26, nameIndex := 1116, descriptorIndex := 1117, attributes := #[] }, { accessFlags := 24, nameIndex := 40, descriptorIndex := 26, attributes := #[] }, { accessFlags := 26, nameIndex := 1101, descriptorIndex := 1102, attributes := #[] }, { accessFlags := 26, nameIndex := 1121, descriptorIndex := 1122, attributes := #[] }, { accessFlags := 25, nameIndex := 599, descriptorIndex := 600, attributes := #[] }, { accessFlags := 24, nameIndex := 1125, descriptorIndex := 18, attributes := #[] }, { accessFlags := 24, nameIndex := 1127, descriptorIndex := 18, attributes := #[] }])
  fields := #[{ name := "value", type := (.array .byte), accessFlags := 18, slot := 0, constantValue := 0 }, { name := "coder", type := .byte, accessFlags := 18, slot := 1, constantValue := 0 }, { name := "hash", type := .int, accessFlags := 2, slot := 2, constantValue := 0 }, { name := "hashIsZero", type := .boolean, accessFlags := 2, slot := 3, constantValue := 0 }, { name := "serialVersionUID", type := .long, accessFlags := 26, slot := 0, constantValue := 0 }, { name := "COMPACT_STRINGS", type := .boolean, accessFlags := 24, slot := 1, constantValue := 0 }, { name := "serialPersistentFields", type := (.array (.object "java/io/ObjectStreamField")), accessFlags := 26, slot := 2, constantValue := 0 }, { name := "REPL", type := .char, accessFlags := 26, slot := 3, constantValue := 0 }, { name := "CASE_INSENSITIVE_ORDER", type := (.object "java/util/Comparator"), accessFlags := 25, slot := 4, constantValue := 0 }, { name := "LATIN1", type := .byte, accessFlags := 24, slot := 5, constantValue := 0 }, { name := "UTF16", type := .byte, accessFlags := 24, slot := 6, constantValue := 0 }]
  methods := #[k8m0]
  instanceTypes := #[(.array .byte), .byte, .int, .boolean]
  staticTypes := #[.long, .boolean, (.array (.object "java/io/ObjectStreamField")), .char, (.object "java/util/Comparator"), .byte, .byte]
  resolved := Array.replicate 1451 none
  statics := none }

def pool9 : Array CpInfo := pool [(8, .class_ 10), (1, u "java/lang/Iterable"), (24, .class_ 36), (0, u "java/lang/Object")] 25

/-- java/lang/Iterable -/
def k9 : Class := { plain "java/lang/Iterable" (some 0) with
  accessFlags := 1537
  interfaces := #[]
  cf := some (fileOf pool9 8 #[] #[] 1537 35 #[] #[])
  fields := #[]
  methods := #[]
  instanceTypes := #[]
  staticTypes := #[]
  resolved := Array.replicate 62 none
  statics := none }

def pool10 : Array CpInfo := pool [(10, .class_ 12), (1, u "java/util/Collection"), (47, .class_ 61), (0, u "java/lang/Object"), (0, .class_ 63), (0, u "java/lang/Iterable")] 51

/-- java/util/Collection -/
def k10 : Class := { plain "java/util/Collection" (some 0) with
  accessFlags := 1537
  interfaces := #[9]
  cf := some (fileOf pool10 10 #[] #[] 1537 60 #[62] #[])
  fields := #[]
  methods := #[]
  instanceTypes := #[]
  staticTypes := #[]
  resolved := Array.replicate 115 none
  statics := none }

def pool11 : Array CpInfo := pool [(1, .methodref 2 3), (0, .class_ 4), (0, .nameAndType 5 6), (0, u "java/lang/Object"), (0, u "<init>"), (0, u "()V"), (1, .class_ 10), (1, u "java/util/AbstractCollection"), (66, .class_ 78), (0, u "java/util/Collection")] 81

def k11c0 : Code := { maxStack := 1, maxLocals := 1, code := jdk_22_method_1_code, exceptionTable := #[], attributes := #[] }
def k11m0 : Method := { name := "<init>", desc := "()V", sig := { parameters := [], returnType := none }, accessFlags := 4, code := some k11c0 }
/-- java/util/AbstractCollection -/
def k11 : Class := { plain "java/util/AbstractCollection" (some 0) with
  accessFlags := 1057
  interfaces := #[10]
  cf := some (fileOf pool11 8 #[] #[{ accessFlags := 4, nameIndex := 5, descriptorIndex := 6, attributes := #[] }] 1057 2 #[77] #[])
  fields := #[]
  methods := #[k11m0]
  instanceTypes := #[]
  staticTypes := #[]
  resolved := Array.replicate 160 none
  statics := none }

def pool12 : Array CpInfo := pool [(8, .class_ 10), (1, u "java/util/SequencedCollection"), (15, .class_ 27), (0, u "java/lang/Object"), (0, .class_ 29), (0, u "java/util/Collection")] 27

/-- java/util/SequencedCollection -/
def k12 : Class := { plain "java/util/SequencedCollection" (some 0) with
  accessFlags := 1537
  interfaces := #[10]
  cf := some (fileOf pool12 8 #[] #[] 1537 26 #[28] #[])
  fields := #[]
  methods := #[]
  instanceTypes := #[]
  staticTypes := #[]
  resolved := Array.replicate 57 none
  statics := none }

def pool13 : Array CpInfo := pool [(8, .class_ 10), (1, u "java/util/List"), (49, u "add"), (3, u "(Ljava/lang/Object;)Z"), (38, .class_ 104), (0, u "java/lang/Object"), (15, .class_ 121), (0, u "java/util/SequencedCollection")] 129

def k13m0 : Method := { name := "add", desc := "(Ljava/lang/Object;)Z", sig := { parameters := [(.object "java/lang/Object")], returnType := some .boolean }, accessFlags := 1025, code := none }
/-- java/util/List -/
def k13 : Class := { plain "java/util/List" (some 0) with
  accessFlags := 1537
  interfaces := #[12]
  cf := some (fileOf pool13 8 #[] #[{ accessFlags := 1025, nameIndex := 60, descriptorIndex := 64, attributes := #[] }] 1537 103 #[120] #[])
  fields := #[]
  methods := #[k13m0]
  instanceTypes := #[]
  staticTypes := #[]
  resolved := Array.replicate 251 none
  statics := none }

def pool14 : Array CpInfo := pool [(1, .methodref 2 3), (0, .class_ 4), (0, .nameAndType 5 6), (0, u "java/util/AbstractCollection"), (0, u "<init>"), (0, u "()V"), (0, .fieldref 8 9), (0, .class_ 10), (0, .nameAndType 11 12), (0, u "java/util/AbstractList"), (0, u "modCount"), (0, u "I"), (64, .class_ 78), (0, u "java/util/AbstractList$Itr"), (3, .class_ 83), (0, u "java/util/AbstractList$ListItr"), (9, .class_ 94), (0, u "java/util/AbstractList$RandomAccessSubList"), (3, .class_ 99), (0, u "java/util/AbstractList$SubList"), (33, .class_ 134), (0, u "java/util/List"), (73, .class_ 209), (0, u "java/util/AbstractList$SubList$1"), (0, .class_ 211), (0, u "java/util/AbstractList$RandomAccessSpliterator")] 6

def k14c0 : Code := { maxStack := 2, maxLocals := 1, code := jdk_39_method_1_code, exceptionTable := #[], attributes := #[] }
def k14m0 : Method := { name := "<init>", desc := "()V", sig := { parameters := [], returnType := none }, accessFlags := 4, code := some k14c0 }
/-- java/util/AbstractList -/
def k14 : Class := { plain "java/util/AbstractList" (some 11) with
  accessFlags := 1057
  interfaces := #[13]
  cf := some (fileOf pool14 8 #[.nestMembers #[93, 98, 208, 210, 82, 77]] #[{ accessFlags := 4, nameIndex := 5, descriptorIndex := 6, attributes := #[] }] 1057 2 #[133] #[{ accessFlags := 132, nameIndex := 11, descriptorIndex := 12, attributes := #[] }])
  fields := #[{ name := "modCount", type := .int, accessFlags := 132, slot := 0, constantValue := 0 }]
  methods := #[k14m0]
  instanceTypes := #[.int]
  staticTypes := #[]
  resolved := Array.replicate 218 none
  statics := none }

def pool15 : Array CpInfo := pool [(1, .class_ 2), (0, u "java/util/RandomAccess"), (0, .class_ 4), (0, u "java/lang/Object")] 2

/-- java/util/RandomAccess -/
def k15 : Class := { plain "java/util/RandomAccess" (some 0) with
  accessFlags := 1537
  interfaces := #[]
  cf := some (fileOf pool15 1 #[] #[] 1537 3 #[] #[])
  fields := #[]
  methods := #[]
  instanceTypes := #[]
  staticTypes := #[]
  resolved := Array.replicate 7 none
  statics := none }

def pool16 : Array CpInfo := pool [(1, .class_ 2), (0, u "java/lang/Cloneable"), (0, .class_ 4), (0, u "java/lang/Object")] 2

/-- java/lang/Cloneable -/
def k16 : Class := { plain "java/lang/Cloneable" (some 0) with
  accessFlags := 1537
  interfaces := #[]
  cf := some (fileOf pool16 1 #[] #[] 1537 3 #[] #[])
  fields := #[]
  methods := #[]
  instanceTypes := #[]
  staticTypes := #[]
  resolved := Array.replicate 7 none
  statics := none }

def pool17 : Array CpInfo := pool [(1, .methodref 2 3), (0, .class_ 4), (0, .nameAndType 5 6), (0, u "java/util/AbstractList"), (0, u "<init>"), (0, u "()V"), (0, .class_ 8), (0, u "java/lang/Object"), (0, .fieldref 10 11), (0, .class_ 12), (0, .nameAndType 13 14), (0, u "java/util/ArrayList"), (0, u "elementData"), (0, u "[Ljava/lang/Object;"), (2, u "EMPTY_ELEMENTDATA"), (21, .fieldref 10 40), (0, .nameAndType 41 14), (0, u "DEFAULTCAPACITY_EMPTY_ELEMENTDATA"), (5, u "()[Ljava/lang/Object;"), (0, .fieldref 10 49), (0, .nameAndType 50 51), (0, u "size"), (0, u "I"), (11, .fieldref 10 64), (0, .nameAndType 65 51), (0, u "modCount"), (3, .methodref 10 70), (0, .nameAndType 71 72), (0, u "grow"), (0, u "(I)[Ljava/lang/Object;"), (6, .methodref 80 81), (0, .class_ 82), (0, .nameAndType 83 84), (0, u "java/lang/Math"), (0, u "max"), (0, u "(II)I"), (11, u "(Ljava/lang/Object;)Z"), (32, .methodref 10 130), (0, .nameAndType 71 47), (0, .methodref 10 132), (0, .nameAndType 133 134), (0, u "add"), (0, u "(Ljava/lang/Object;[Ljava/lang/Object;I)V"), (13, .class_ 149), (0, u "java/util/List"), (112, .class_ 263), (0, u "java/util/ArrayList$ListItr"), (3, .class_ 268), (0, u "java/util/ArrayList$Itr"), (7, .class_ 277), (0, u "java/util/ArrayList$SubList"), (12, .class_ 291), (0, u "java/util/ArrayList$ArrayListSpliterator"), (37, .class_ 330), (0, u "java/util/RandomAccess"), (0, .class_ 332), (0, u "java/lang/Cloneable"), (0, .class_ 334), (0, u "java/io/Serializable"), (0, u "serialVersionUID"), (0, u "J"), (3, u "DEFAULT_CAPACITY"), (159, .class_ 501), (0, u "java/util/ArrayList$SubList$2"), (0, .class_ 503), (0, u "java/util/ArrayList$SubList$1")] 5

def k17c0 : Code := { maxStack := 2, maxLocals := 1, code := jdk_38_method_2_code, exceptionTable := #[], attributes := #[] }
def k17m0 : Method := { name := "<init>", desc := "()V", sig := { parameters := [], returnType := none }, accessFlags := 1, code := some k17c0 }
def k17c1 : Code := { maxStack := 4, maxLocals := 4, code := jdk_38_method_6_code, exceptionTable := #[], attributes := #[] }
def k17m1 : Method := { name := "grow", desc := "(I)[Ljava/lang/Object;", sig := { parameters := [.int], returnType := some (.array (.object "java/lang/Object")) }, accessFlags := 2, code := some k17c1 }
def k17c2 : Code := { maxStack := 3, maxLocals := 1, code := jdk_38_method_7_code, exceptionTable := #[], attributes := #[] }
def k17m2 : Method := { name := "grow", desc := "()[Ljava/lang/Object;", sig := { parameters := [], returnType := some (.array (.object "java/lang/Object")) }, accessFlags := 2, code := some k17c2 }
def k17c3 : Code := { maxStack := 3, maxLocals := 4, code := jdk_38_method_24_code, exceptionTable := #[], attributes := #[] }
def k17m3 : Method := { name := "add", desc := "(Ljava/lang/Object;[Ljava/lang/Object;I)V", sig := { parameters := [(.object "java/lang/Object"), (.array (.object "java/lang/Object")), .int], returnType := none }, accessFlags := 2, code := some k17c3 }
def k17c4 : Code := { maxStack := 4, maxLocals := 2, code := jdk_38_method_25_code, exceptionTable := #[], attributes := #[] }
def k17m4 : Method := { name := "add", desc := "(Ljava/lang/Object;)Z", sig := { parameters := [(.object "java/lang/Object")], returnType := some .boolean }, accessFlags := 1, code := some k17c4 }
/-- java/util/ArrayList -/
def k17 : Class := { plain "java/util/ArrayList" (some 14) with
  accessFlags := 33
  interfaces := #[13, 15, 16, 3]
  cf := some (fileOf pool17 10 #[.nestMembers #[290, 276, 500, 502, 262, 267]] #[{ accessFlags := 1, nameIndex := 5, descriptorIndex := 6, attributes := #[] }, { accessFlags := 2, nameIndex := 71, descriptorIndex := 72, attributes := #[] }, { accessFlags := 2, nameIndex := 71, descriptorIndex := 47, attributes := #[] }, { accessFlags := 2, nameIndex := 133, descriptorIndex := 134, attributes := #[] }, { accessFlags := 1, nameIndex := 133, descriptorIndex := 96, attributes := #[] }] 33 2 #[148, 329, 331, 333] #[{ accessFlags := 26, nameIndex := 335, descriptorIndex := 336, attributes := #[] }, { accessFlags := 26, nameIndex := 340, descriptorIndex := 51, attributes := #[] }, { accessFlags := 26, nameIndex := 17, descriptorIndex := 14, attributes := #[] }, { accessFlags := 26, nameIndex := 41, descriptorIndex := 14, attributes := #[] }, { accessFlags := 128, nameIndex := 13, descriptorIndex := 14, attributes := #[] }, { accessFlags := 2, nameIndex := 50, descriptorIndex := 51, attributes := #[] }])
  fields := #[{ name := "serialVersionUID", type := .long, accessFlags := 26, slot := 0, constantValue := 0 }, { name := "DEFAULT_CAPACITY", type := .int, accessFlags := 26, slot := 1, constantValue := 0 }, { name := "EMPTY_ELEMENTDATA", type := (.array (.object "java/lang/Object")), accessFlags := 26, slot := 2, constantValue := 0 }, { name := "DEFAULTCAPACITY_EMPTY_ELEMENTDATA", type := (.array (.object "java/lang/Object")), accessFlags := 26, slot := 3, constantValue := 0 }, { name := "elementData", type := (.array (.object "java/lang/Object")), accessFlags := 128, slot := 1, constantValue := 0 }, { name := "size", type := .int, accessFlags := 2, slot := 2, constantValue := 0 }]
  methods := #[k17m0, k17m1, k17m2, k17m3, k17m4]
  instanceTypes := #[.int, (.array (.object "java/lang/Object")), .int]
  staticTypes := #[.long, .int, (.array (.object "java/lang/Object")), (.array (.object "java/lang/Object"))]
  resolved := Array.replicate 509 none
  statics := some 0 }

def pool18 : Array CpInfo := pool [(1, .methodref 2 3), (0, .class_ 4), (0, .nameAndType 5 6), (0, u "java/lang/Object"), (0, u "<init>"), (0, u "()V"), (0, .class_ 8), (0, u "java/lang/Record")] 13

def k18c0 : Code := { maxStack := 1, maxLocals := 1, code := jdk_30_method_1_code, exceptionTable := #[], attributes := #[] }
def k18m0 : Method := { name := "<init>", desc := "()V", sig := { parameters := [], returnType := none }, accessFlags := 4, code := some k18c0 }
/-- java/lang/Record -/
def k18 : Class := { plain "java/lang/Record" (some 0) with
  accessFlags := 1057
  interfaces := #[]
  cf := some (fileOf pool18 7 #[] #[{ accessFlags := 4, nameIndex := 5, descriptorIndex := 6, attributes := #[] }] 1057 2 #[] #[])
  fields := #[]
  methods := #[k18m0]
  instanceTypes := #[]
  staticTypes := #[]
  resolved := Array.replicate 22 none
  statics := none }

def pool19 : Array CpInfo := pool [(1, .methodref 2 3), (0, .class_ 4), (0, .nameAndType 5 6), (0, u "java/lang/Record"), (0, u "<init>"), (0, u "()V"), (3, .class_ 12), (1, u "com/example/guest_panes/guestpanes/Rect"), (11, .long 2147483647), (2, .fieldref 10 28), (0, .nameAndType 29 30), (0, u "left"), (0, u "I"), (0, .fieldref 10 32), (0, .nameAndType 33 30), (0, u "top"), (0, .fieldref 10 35), (0, .nameAndType 36 30), (0, u "right"), (0, .fieldref 10 38), (0, .nameAndType 39 30), (0, u "bottom"), (0, .methodref 41 42), (0, .class_ 43), (0, .nameAndType 44 45), (0, u "java/lang/Math"), (0, u "addExact"), (0, u "(II)I"), (0, .methodref 10 47), (0, .nameAndType 5 48), (0, u "(IIII)V"), (25, u "width"), (0, u "()I"), (5, u "offset"), (0, u "(II)Lcom/example/guest_panes/guestpanes/Rect;")] 42

def k19c0 : Code := { maxStack := 6, maxLocals := 5, code := prog_19_method_1_code, exceptionTable := #[], attributes := #[] }
def k19m0 : Method := { name := "<init>", desc := "(IIII)V", sig := { parameters := [.int, .int, .int, .int], returnType := none }, accessFlags := 1, code := some k19c0 }
def k19c1 : Code := { maxStack := 2, maxLocals := 1, code := prog_19_method_2_code, exceptionTable := #[], attributes := #[] }
def k19m1 : Method := { name := "width", desc := "()I", sig := { parameters := [], returnType := some .int }, accessFlags := 1, code := some k19c1 }
def k19c2 : Code := { maxStack := 7, maxLocals := 3, code := prog_19_method_6_code, exceptionTable := #[], attributes := #[] }
def k19m2 : Method := { name := "offset", desc := "(II)Lcom/example/guest_panes/guestpanes/Rect;", sig := { parameters := [.int, .int], returnType := some (.object "com/example/guest_panes/guestpanes/Rect") }, accessFlags := 1, code := some k19c2 }
def k19c3 : Code := { maxStack := 1, maxLocals := 1, code := prog_19_method_14_code, exceptionTable := #[], attributes := #[] }
def k19m3 : Method := { name := "left", desc := "()I", sig := { parameters := [], returnType := some .int }, accessFlags := 1, code := some k19c3 }
def k19c4 : Code := { maxStack := 1, maxLocals := 1, code := prog_19_method_15_code, exceptionTable := #[], attributes := #[] }
def k19m4 : Method := { name := "top", desc := "()I", sig := { parameters := [], returnType := some .int }, accessFlags := 1, code := some k19c4 }
def k19c5 : Code := { maxStack := 1, maxLocals := 1, code := prog_19_method_16_code, exceptionTable := #[], attributes := #[] }
def k19m5 : Method := { name := "right", desc := "()I", sig := { parameters := [], returnType := some .int }, accessFlags := 1, code := some k19c5 }
def k19c6 : Code := { maxStack := 1, maxLocals := 1, code := prog_19_method_17_code, exceptionTable := #[], attributes := #[] }
def k19m6 : Method := { name := "bottom", desc := "()I", sig := { parameters := [], returnType := some .int }, accessFlags := 1, code := some k19c6 }
/-- com/example/guest_panes/guestpanes/Rect -/
def k19 : Class := { plain "com/example/guest_panes/guestpanes/Rect" (some 18) with
  accessFlags := 49
  interfaces := #[]
  cf := some (fileOf pool19 10 #[] #[{ accessFlags := 1, nameIndex := 5, descriptorIndex := 48, attributes := #[] }, { accessFlags := 1, nameIndex := 74, descriptorIndex := 75, attributes := #[] }, { accessFlags := 1, nameIndex := 81, descriptorIndex := 82, attributes := #[] }, { accessFlags := 1, nameIndex := 29, descriptorIndex := 75, attributes := #[] }, { accessFlags := 1, nameIndex := 33, descriptorIndex := 75, attributes := #[] }, { accessFlags := 1, nameIndex := 36, descriptorIndex := 75, attributes := #[] }, { accessFlags := 1, nameIndex := 39, descriptorIndex := 75, attributes := #[] }] 49 2 #[] #[{ accessFlags := 18, nameIndex := 29, descriptorIndex := 30, attributes := #[] }, { accessFlags := 18, nameIndex := 33, descriptorIndex := 30, attributes := #[] }, { accessFlags := 18, nameIndex := 36, descriptorIndex := 30, attributes := #[] }, { accessFlags := 18, nameIndex := 39, descriptorIndex := 30, attributes := #[] }])
  fields := #[{ name := "left", type := .int, accessFlags := 18, slot := 0, constantValue := 0 }, { name := "top", type := .int, accessFlags := 18, slot := 1, constantValue := 0 }, { name := "right", type := .int, accessFlags := 18, slot := 2, constantValue := 0 }, { name := "bottom", type := .int, accessFlags := 18, slot := 3, constantValue := 0 }]
  methods := #[k19m0, k19m1, k19m2, k19m3, k19m4, k19m5, k19m6]
  instanceTypes := #[.int, .int, .int, .int]
  staticTypes := #[]
  resolved := Array.replicate 125 none
  statics := none }

def pool20 : Array CpInfo := pool [(1, .methodref 2 3), (0, .class_ 4), (0, .nameAndType 5 6), (0, u "java/lang/Object"), (0, u "<init>"), (0, u "()V"), (0, .class_ 8), (0, u "java/util/ArrayList"), (0, .methodref 7 3), (0, .fieldref 11 12), (0, .class_ 13), (0, .nameAndType 14 15), (0, u "com/example/guest_panes/guestpanes/PaneOwner"), (0, u "panes"), (0, u "Ljava/util/List;"), (0, .fieldref 11 17), (0, .nameAndType 18 19), (0, u "display"), (0, u "Lcom/example/guest_panes/guestpanes/Display;"), (44, u "(Lcom/example/guest_panes/guestpanes/Display;)V"), (15, u "()Ljava/util/List;")] 13

def k20c0 : Code := { maxStack := 3, maxLocals := 2, code := prog_18_method_1_code, exceptionTable := #[], attributes := #[] }
def k20m0 : Method := { name := "<init>", desc := "(Lcom/example/guest_panes/guestpanes/Display;)V", sig := { parameters := [(.object "com/example/guest_panes/guestpanes/Display")], returnType := none }, accessFlags := 0, code := some k20c0 }
def k20c1 : Code := { maxStack := 1, maxLocals := 1, code := prog_18_method_9_code, exceptionTable := #[], attributes := #[] }
def k20m1 : Method := { name := "panes", desc := "()Ljava/util/List;", sig := { parameters := [], returnType := some (.object "java/util/List") }, accessFlags := 16, code := some k20c1 }
/-- com/example/guest_panes/guestpanes/PaneOwner -/
def k20 : Class := { plain "com/example/guest_panes/guestpanes/PaneOwner" (some 0) with
  accessFlags := 1056
  interfaces := #[]
  cf := some (fileOf pool20 11 #[] #[{ accessFlags := 0, nameIndex := 5, descriptorIndex := 64, attributes := #[] }, { accessFlags := 16, nameIndex := 14, descriptorIndex := 80, attributes := #[] }] 1056 2 #[] #[{ accessFlags := 18, nameIndex := 18, descriptorIndex := 19, attributes := #[] }, { accessFlags := 18, nameIndex := 14, descriptorIndex := 15, attributes := #[] }])
  fields := #[{ name := "display", type := (.object "com/example/guest_panes/guestpanes/Display"), accessFlags := 18, slot := 0, constantValue := 0 }, { name := "panes", type := (.object "java/util/List"), accessFlags := 18, slot := 1, constantValue := 0 }]
  methods := #[k20m0, k20m1]
  instanceTypes := #[(.object "com/example/guest_panes/guestpanes/Display"), (.object "java/util/List")]
  staticTypes := #[]
  resolved := Array.replicate 94 none
  statics := none }

def pool21 : Array CpInfo := pool [(1, .methodref 2 3), (0, .class_ 4), (0, .nameAndType 5 6), (0, u "com/example/guest_panes/guestpanes/PaneOwner"), (0, u "<init>"), (0, u "(Lcom/example/guest_panes/guestpanes/Display;)V"), (0, .class_ 8), (0, u "com/example/guest_panes/guestpanes/Pane"), (0, .methodref 10 11), (0, .class_ 12), (0, .nameAndType 13 14), (0, u "com/example/guest_panes/guestpanes/Display"), (0, u "color"), (0, u "()I"), (0, .methodref 7 16), (0, .nameAndType 5 17), (0, u "(Ljava/lang/String;Lcom/example/guest_panes/guestpanes/PaneOwner;Lcom/example/guest_panes/guestpanes/Rect;I)V"), (0, .fieldref 19 20), (0, .class_ 21), (0, .nameAndType 22 23), (0, u "com/example/guest_panes/guestpanes/FreeWindow"), (0, u "pane"), (0, u "Lcom/example/guest_panes/guestpanes/Pane;"), (0, .methodref 19 25), (0, .nameAndType 26 27), (0, u "panes"), (0, u "()Ljava/util/List;"), (0, .interfaceMethodref 29 30), (0, .class_ 31), (0, .nameAndType 32 33), (0, u "java/util/List"), (0, u "add"), (0, u "(Ljava/lang/Object;)Z"), (25, .fieldref 19 60), (0, .nameAndType 61 62), (0, u "partner"), (0, u "Lcom/example/guest_panes/guestpanes/FreeWindow;"), (0, .fieldref 19 64), (0, .nameAndType 65 66), (0, u "main"), (0, u "Z"), (0, .methodref 19 68), (0, .nameAndType 69 70), (0, u "rightOf"), (0, u "(Lcom/example/guest_panes/guestpanes/Rect;)Lcom/example/guest_panes/guestpanes/Rect;"), (0, .methodref 72 73), (0, .class_ 74), (0, .nameAndType 75 14), (0, u "com/example/guest_panes/guestpanes/Rect"), (0, u "width"), (0, .methodref 72 77), (0, .nameAndType 78 79), (0, u "offset"), (0, u "(II)Lcom/example/guest_panes/guestpanes/Rect;"), (17, u "partnerBounds"), (25, u "(Ljava/lang/String;Lcom/example/guest_panes/guestpanes/Display;Lcom/example/guest_panes/guestpanes/Rect;)V"), (6, u "()Lcom/example/guest_panes/guestpanes/FreeWindow;"), (0, u "pairWith"), (0, u "(Lcom/example/guest_panes/guestpanes/FreeWindow;)V")] 15

def k21c0 : Code := { maxStack := 7, maxLocals := 4, code := prog_10_method_1_code, exceptionTable := #[], attributes := #[] }
def k21m0 : Method := { name := "<init>", desc := "(Ljava/lang/String;Lcom/example/guest_panes/guestpanes/Display;Lcom/example/guest_panes/guestpanes/Rect;)V", sig := { parameters := [(.object "java/lang/String"), (.object "com/example/guest_panes/guestpanes/Display"), (.object "com/example/guest_panes/guestpanes/Rect")], returnType := none }, accessFlags := 0, code := some k21c0 }
def k21c1 : Code := { maxStack := 1, maxLocals := 1, code := prog_10_method_5_code, exceptionTable := #[], attributes := #[] }
def k21m1 : Method := { name := "partner", desc := "()Lcom/example/guest_panes/guestpanes/FreeWindow;", sig := { parameters := [], returnType := some (.object "com/example/guest_panes/guestpanes/FreeWindow") }, accessFlags := 0, code := some k21c1 }
def k21c2 : Code := { maxStack := 2, maxLocals := 2, code := prog_10_method_6_code, exceptionTable := #[], attributes := #[] }
def k21m2 : Method := { name := "pairWith", desc := "(Lcom/example/guest_panes/guestpanes/FreeWindow;)V", sig := { parameters := [(.object "com/example/guest_panes/guestpanes/FreeWindow")], returnType := none }, accessFlags := 0, code := some k21c2 }
def k21c3 : Code := { maxStack := 3, maxLocals := 2, code := prog_10_method_7_code, exceptionTable := #[], attributes := #[] }
def k21m3 : Method := { name := "partnerBounds", desc := "(Lcom/example/guest_panes/guestpanes/Rect;)Lcom/example/guest_panes/guestpanes/Rect;", sig := { parameters := [(.object "com/example/guest_panes/guestpanes/Rect")], returnType := some (.object "com/example/guest_panes/guestpanes/Rect") }, accessFlags := 0, code := some k21c3 }
def k21c4 : Code := { maxStack := 3, maxLocals := 1, code := prog_10_method_8_code, exceptionTable := #[], attributes := #[] }
def k21m4 : Method := { name := "rightOf", desc := "(Lcom/example/guest_panes/guestpanes/Rect;)Lcom/example/guest_panes/guestpanes/Rect;", sig := { parameters := [(.object "com/example/guest_panes/guestpanes/Rect")], returnType := some (.object "com/example/guest_panes/guestpanes/Rect") }, accessFlags := 8, code := some k21c4 }
/-- com/example/guest_panes/guestpanes/FreeWindow -/
def k21 : Class := { plain "com/example/guest_panes/guestpanes/FreeWindow" (some 20) with
  accessFlags := 48
  interfaces := #[]
  cf := some (fileOf pool21 19 #[] #[{ accessFlags := 0, nameIndex := 5, descriptorIndex := 123, attributes := #[] }, { accessFlags := 0, nameIndex := 61, descriptorIndex := 130, attributes := #[] }, { accessFlags := 0, nameIndex := 131, descriptorIndex := 132, attributes := #[] }, { accessFlags := 0, nameIndex := 97, descriptorIndex := 70, attributes := #[] }, { accessFlags := 8, nameIndex := 69, descriptorIndex := 70, attributes := #[] }] 48 2 #[] #[{ accessFlags := 18, nameIndex := 22, descriptorIndex := 23, attributes := #[] }, { accessFlags := 2, nameIndex := 61, descriptorIndex := 62, attributes := #[] }, { accessFlags := 2, nameIndex := 65, descriptorIndex := 66, attributes := #[] }])
  fields := #[{ name := "pane", type := (.object "com/example/guest_panes/guestpanes/Pane"), accessFlags := 18, slot := 2, constantValue := 0 }, { name := "partner", type := (.object "com/example/guest_panes/guestpanes/FreeWindow"), accessFlags := 2, slot := 3, constantValue := 0 }, { name := "main", type := .boolean, accessFlags := 2, slot := 4, constantValue := 0 }]
  methods := #[k21m0, k21m1, k21m2, k21m3, k21m4]
  instanceTypes := #[(.object "com/example/guest_panes/guestpanes/Display"), (.object "java/util/List"), (.object "com/example/guest_panes/guestpanes/Pane"), (.object "com/example/guest_panes/guestpanes/FreeWindow"), .boolean]
  staticTypes := #[]
  resolved := Array.replicate 148 none
  statics := none }

def pool22 : Array CpInfo := pool [(1, .methodref 2 3), (0, .class_ 4), (0, .nameAndType 5 6), (0, u "java/lang/Object"), (0, u "<init>"), (0, u "()V"), (0, .fieldref 8 9), (0, .class_ 10), (0, .nameAndType 11 12), (0, u "com/example/guest_panes/guestpanes/Pane"), (0, u "id"), (0, u "Ljava/lang/String;"), (0, .fieldref 8 14), (0, .nameAndType 15 16), (0, u "owner"), (0, u "Lcom/example/guest_panes/guestpanes/PaneOwner;"), (0, .fieldref 8 18), (0, .nameAndType 19 20), (0, u "bounds"), (0, u "Lcom/example/guest_panes/guestpanes/Rect;"), (0, .fieldref 8 22), (0, .nameAndType 23 24), (0, u "placeholder"), (0, u "I"), (17, u "task"), (0, u "Lcom/example/guest_panes/guestpanes/Task;"), (21, u "launching"), (0, u "Z"), (2, u "launch"), (0, u "Lcom/example/guest_panes/guestpanes/Launch;"), (2, u "crashes"), (45, u "(Ljava/lang/String;Lcom/example/guest_panes/guestpanes/PaneOwner;Lcom/example/guest_panes/guestpanes/Rect;I)V")] 46

def k22c0 : Code := { maxStack := 2, maxLocals := 5, code := prog_17_method_1_code, exceptionTable := #[], attributes := #[] }
def k22m0 : Method := { name := "<init>", desc := "(Ljava/lang/String;Lcom/example/guest_panes/guestpanes/PaneOwner;Lcom/example/guest_panes/guestpanes/Rect;I)V", sig := { parameters := [(.object "java/lang/String"), (.object "com/example/guest_panes/guestpanes/PaneOwner"), (.object "com/example/guest_panes/guestpanes/Rect"), .int], returnType := none }, accessFlags := 0, code := some k22c0 }
/-- com/example/guest_panes/guestpanes/Pane -/
def k22 : Class := { plain "com/example/guest_panes/guestpanes/Pane" (some 0) with
  accessFlags := 48
  interfaces := #[]
  cf := some (fileOf pool22 8 #[] #[{ accessFlags := 0, nameIndex := 5, descriptorIndex := 119, attributes := #[] }] 48 2 #[] #[{ accessFlags := 18, nameIndex := 11, descriptorIndex := 12, attributes := #[] }, { accessFlags := 18, nameIndex := 15, descriptorIndex := 16, attributes := #[] }, { accessFlags := 2, nameIndex := 19, descriptorIndex := 20, attributes := #[] }, { accessFlags := 18, nameIndex := 23, descriptorIndex := 24, attributes := #[] }, { accessFlags := 2, nameIndex := 69, descriptorIndex := 70, attributes := #[] }, { accessFlags := 2, nameIndex := 65, descriptorIndex := 66, attributes := #[] }, { accessFlags := 2, nameIndex := 73, descriptorIndex := 24, attributes := #[] }, { accessFlags := 2, nameIndex := 42, descriptorIndex := 43, attributes := #[] }])
  fields := #[{ name := "id", type := (.object "java/lang/String"), accessFlags := 18, slot := 0, constantValue := 0 }, { name := "owner", type := (.object "com/example/guest_panes/guestpanes/PaneOwner"), accessFlags := 18, slot := 1, constantValue := 0 }, { name := "bounds", type := (.object "com/example/guest_panes/guestpanes/Rect"), accessFlags := 2, slot := 2, constantValue := 0 }, { name := "placeholder", type := .int, accessFlags := 18, slot := 3, constantValue := 0 }, { name := "launch", type := (.object "com/example/guest_panes/guestpanes/Launch"), accessFlags := 2, slot := 4, constantValue := 0 }, { name := "launching", type := .boolean, accessFlags := 2, slot := 5, constantValue := 0 }, { name := "crashes", type := .int, accessFlags := 2, slot := 6, constantValue := 0 }, { name := "task", type := (.object "com/example/guest_panes/guestpanes/Task"), accessFlags := 2, slot := 7, constantValue := 0 }]
  methods := #[k22m0]
  instanceTypes := #[(.object "java/lang/String"), (.object "com/example/guest_panes/guestpanes/PaneOwner"), (.object "com/example/guest_panes/guestpanes/Rect"), .int, (.object "com/example/guest_panes/guestpanes/Launch"), .boolean, .int, (.object "com/example/guest_panes/guestpanes/Task")]
  staticTypes := #[]
  resolved := Array.replicate 166 none
  statics := none }

def pool23 : Array CpInfo := pool [(1, .class_ 2), (0, u "java/lang/Math"), (1, .class_ 6), (1, u "java/lang/Object"), (0, u "<init>"), (0, u "()V"), (89, .class_ 100), (1, u "java/lang/Math$RandomNumberGeneratorHolder"), (71, u "negativeZeroFloatBits"), (0, u "J"), (2, u "negativeZeroDoubleBits"), (21, u "max"), (46, u "$assertionsDisabled"), (0, u "Z"), (88, u "(II)I"), (2, u "twoToTheDoubleScaleDown"), (0, u "D"), (4, u "twoToTheDoubleScaleUp"), (9, u "E"), (3, u "PI"), (2, u "TAU"), (2, u "DEGREES_TO_RADIANS"), (0, u "RADIANS_TO_DEGREES"), (27, u "addExact")] 66

def k23m0 : Method := { name := "<init>", desc := "()V", sig := { parameters := [], returnType := none }, accessFlags := 2, code := none }
def k23c1 : Code := { maxStack := 3, maxLocals := 3, code := jdk_29_method_24_code, exceptionTable := #[], attributes := #[] }
def k23m1 : Method := { name := "addExact", desc := "(II)I", sig := { parameters := [.int, .int], returnType := some .int }, accessFlags := 9, code := some k23c1 }
def k23c2 : Code := { maxStack := 2, maxLocals := 2, code := jdk_29_method_65_code, exceptionTable := #[], attributes := #[] }
def k23m2 : Method := { name := "max", desc := "(II)I", sig := { parameters := [.int, .int], returnType := some .int }, accessFlags := 9, code := some k23c2 }
/-- java/lang/Math -/
def k23 : Class := { plain "java/lang/Math" (some 0) with
  accessFlags := 49
  interfaces := #[]
  cf := some (fileOf pool23 1 #[.nestMembers #[98]] #[{ accessFlags := 2, nameIndex := 7, descriptorIndex := 8, attributes := #[] }, { accessFlags := 9, nameIndex := 393, descriptorIndex := 335, attributes := #[] }, { accessFlags := 9, nameIndex := 198, descriptorIndex := 335, attributes := #[] }] 49 4 #[] #[{ accessFlags := 25, nameIndex := 354, descriptorIndex := 339, attributes := #[] }, { accessFlags := 25, nameIndex := 358, descriptorIndex := 339, attributes := #[] }, { accessFlags := 25, nameIndex := 361, descriptorIndex := 339, attributes := #[] }, { accessFlags := 26, nameIndex := 364, descriptorIndex := 339, attributes := #[] }, { accessFlags := 26, nameIndex := 365, descriptorIndex := 339, attributes := #[] }, { accessFlags := 26, nameIndex := 172, descriptorIndex := 173, attributes := #[] }, { accessFlags := 26, nameIndex := 176, descriptorIndex := 173, attributes := #[] }, { accessFlags := 8, nameIndex := 344, descriptorIndex := 339, attributes := #[] }, { accessFlags := 8, nameIndex := 338, descriptorIndex := 339, attributes := #[] }, { accessFlags := 4120, nameIndex := 245, descriptorIndex := 246, attributes := #[] }])
  fields := #[{ name := "E", type := .double, accessFlags := 25, slot := 0, constantValue := 0 }, { name := "PI", type := .double, accessFlags := 25, slot := 1, constantValue := 0 }, { name := "TAU", type := .double, accessFlags := 25, slot := 2, constantValue := 0 }, { name := "DEGREES_TO_RADIANS", type := .double, accessFlags := 26, slot := 3, constantValue := 0 }, { name := "RADIANS_TO_DEGREES", type := .double, accessFlags := 26, slot := 4, constantValue := 0 }, { name := "negativeZeroFloatBits", type := .long, accessFlags := 26, slot := 5, constantValue := 0 }, { name := "negativeZeroDoubleBits", type := .long, accessFlags := 26, slot := 6, constantValue := 0 }, { name := "twoToTheDoubleScaleUp", type := .double, accessFlags := 8, slot := 7, constantValue := 0 }, { name := "twoToTheDoubleScaleDown", type := .double, accessFlags := 8, slot := 8, constantValue := 0 }, { name := "$assertionsDisabled", type := .boolean, accessFlags := 4120, slot := 9, constantValue := 0 }]
  methods := #[k23m0, k23m1, k23m2]
  instanceTypes := #[]
  staticTypes := #[.double, .double, .double, .double, .double, .long, .long, .double, .double, .boolean]
  resolved := Array.replicate 460 none
  statics := none }

/-- the primitive byte -/
def k24 : Class := { plain "byte" none with kind := .primitive 'B', accessFlags := 0x411 }
/-- [B -/
def k25 : Class := { plain "[B" (some 0) with kind := .array 24 .byte, interfaces := #[16, 3], accessFlags := 1041 }

/-- the primitive int -/
def k26 : Class := { plain "int" none with kind := .primitive 'I', accessFlags := 0x411 }
/-- [I -/
def k27 : Class := { plain "[I" (some 0) with kind := .array 26 .int, interfaces := #[16, 3], accessFlags := 1041 }

/-- [Ljava/lang/Object; -/
def k28 : Class := { plain "[Ljava/lang/Object;" (some 0) with kind := .array 0 (.object "java/lang/Object"), interfaces := #[16, 3], accessFlags := 1041 }

def heap : Heap := #[{ cls := 17, slots := #[.long 0, .int 0, .ref 1, .ref 2], vm := .statics 17 },
  { cls := 28, slots := #[], vm := .none },
  { cls := 28, slots := #[], vm := .none }]
def classes : Array Class := #[k0, k1, k2, k3, k4, k5, k6, k7, k8, k9, k10, k11, k12, k13, k14, k15, k16, k17, k18, k19, k20, k21, k22, k23, k24, k25, k26, k27, k28]
def interned : List (Array UInt16 × Addr) := []
def slotsUsed : Nat := 4
def theMethod : MethodId := ⟨1, 1⟩
def args0 : Array Value := #[.int 4, .int 7, .int 8, .int 9, .int 0]
def aboutOver (below : List Frame) : State where
  vm := { classes := classes, interned := interned.toArray }
  heap := heap
  slotsUsed := slotsUsed
  threads := #[{ frames := .invoking theMethod args0 :: below }]
def below0 : List Frame := [.native { method := ⟨0, 0⟩, args := #[] }]
def about1 : State := aboutOver below0
def p0 : Program := .bare "" "" ""
def e0 : Env := launch0.env 0 0 0
theorem w_frames : about1.frames = Frame.invoking theMethod args0 :: below0 := rfl
set_option maxRecDepth 65536 in
theorem w_args : argsFit about1.vm theMethod args0 = true := by decide +kernel
set_option maxRecDepth 65536 in
theorem w_heap : heapFits about1 = true := by decide +kernel
set_option maxRecDepth 65536 in
theorem w_runnable : about1.curStatus? = some .runnable := by decide +kernel
set_option maxRecDepth 65536 in
theorem w_alone : about1.alone = true := by decide +kernel
set_option maxRecDepth 65536 in
theorem w_named : about1.methodNamed? x = some theMethod := by decide +kernel
set_option maxRecDepth 65536 in
theorem w_hears : about1.hears theMethod below0 = true := by decide +kernel
set_option maxRecDepth 65536 in
theorem w_ripe : about1.ripe theMethod args0 below0 = true := by decide +kernel
theorem w_running : about1.status = .running := rfl
set_option maxRecDepth 65536 in
theorem w_room : about1.hasRoom e0.platform room_1 = true :=
  launch0.hasRoom_least _ room_1 (by decide +kernel) (by decide +kernel) (by decide +kernel) (by decide +kernel) (by decide +kernel) (by decide +kernel)
theorem allAtoms_all (ts : List Jvm.Cond) (a : Array Jvm.Value) (st : Jvm.State) : (allAtoms ts).before a st = ts.all (fun c => c.before a st) := by
  induction ts with
  | nil => rfl
  | cons c t ih =>
    show (Jvm.Cond.and c (allAtoms t)).before a st = _
    rw [Jvm.Cond.before_and, ih, List.all_cons]
def words1 : List Jvm.Cond := Jvm.Cond.code x code maxLocals ret :: tables_1
/-- a 'code' word, met by the world's own term for the bytes: nothing is compared byte by byte -/
theorem code_word {y : MethodName} {bytes : ByteArray} {mx : Nat} {rt : Option FieldType} {a : Array Value} {s : State} {m : MethodId} {meth : Method} {c : Code} (h1 : s.methodNamed? y = some m) (h2 : s.vm.method? m = some meth) (h3 : meth.code = some c) (h4 : c.code = bytes)
    (h5 : (c.maxLocals == mx && c.exceptionTable.isEmpty && decide (c.maxStack ≤ mostOperands) && decide (meth.sig.returnType = rt) && !meth.locks && decide (parseMethodDescriptor y.desc = some meth.sig)) = true) : (Jvm.Cond.code y bytes mx rt).before a s = true := by
  simp only [Bool.and_eq_true, beq_iff_eq, Bool.not_eq_true', decide_eq_true_eq] at h5
  obtain ⟨⟨⟨⟨⟨g1, g2⟩, g3⟩, g4⟩, g5⟩, g6⟩ := h5
  simp [Cond.before, Cond.holds, Cond.value, h1, h2, h3, h4, g1, g2, g3, g4, g5, g6]
def isCode : Jvm.Cond → Bool
  | .code _ _ _ _ => true
  | _ => false
theorem all_split {L : List Jvm.Cond} {P : Jvm.Cond → Bool} (h1 : L.all (fun c => isCode c || P c) = true) (h2 : ∀ c ∈ L.filter isCode, P c = true) : L.all P = true := by
  refine List.all_eq_true.mpr fun c hc => ?_
  have h := List.all_eq_true.mp h1 c hc
  rcases Bool.eq_false_or_eq_true (isCode c) with hi | hi
  · exact h2 c (List.mem_filter.mpr ⟨hc, hi⟩)
  · simpa [hi] using h
set_option maxRecDepth 65536 in
theorem w_c0 : (Jvm.Cond.code x code maxLocals ret).before args0 about1 = true := code_word (m := ⟨1, 1⟩) (meth := k1m1) (c := k1c1) (by decide +kernel) rfl rfl rfl (by decide +kernel)
set_option maxRecDepth 65536 in
theorem w_c1 : (Jvm.Cond.code ({ cls := "com/example/guest_panes/guestpanes/Display", name := "<init>", desc := "(Ljava/lang/String;III)V" } : Jvm.MethodName) prog_6_method_1_code (5 : Nat) (Option.none : Option Jvm.ClassFile.FieldType)).before args0 about1 = true := code_word (m := ⟨2, 0⟩) (meth := k2m0) (c := k2c0) (by decide +kernel) rfl rfl rfl (by decide +kernel)
set_option maxRecDepth 65536 in
theorem w_c2 : (Jvm.Cond.code ({ cls := "java/lang/Object", name := "<init>", desc := "()V" } : Jvm.MethodName) object_method_1_code (1 : Nat) (Option.none : Option Jvm.ClassFile.FieldType)).before args0 about1 = true := code_word (m := ⟨0, 0⟩) (meth := k0m0) (c := k0c0) (by decide +kernel) rfl rfl rfl (by decide +kernel)
set_option maxRecDepth 65536 in
theorem w_c3 : (Jvm.Cond.code ({ cls := "java/util/ArrayList", name := "<init>", desc := "()V" } : Jvm.MethodName) jdk_38_method_2_code (1 : Nat) (Option.none : Option Jvm.ClassFile.FieldType)).before args0 about1 = true := code_word (m := ⟨17, 0⟩) (meth := k17m0) (c := k17c0) (by decide +kernel) rfl rfl rfl (by decide +kernel)
set_option maxRecDepth 65536 in
theorem w_c4 : (Jvm.Cond.code ({ cls := "java/util/AbstractList", name := "<init>", desc := "()V" } : Jvm.MethodName) jdk_39_method_1_code (1 : Nat) (Option.none : Option Jvm.ClassFile.FieldType)).before args0 about1 = true := code_word (m := ⟨14, 0⟩) (meth := k14m0) (c := k14c0) (by decide +kernel) rfl rfl rfl (by decide +kernel)
set_option maxRecDepth 65536 in
theorem w_c5 : (Jvm.Cond.code ({ cls := "java/util/AbstractCollection", name := "<init>", desc := "()V" } : Jvm.MethodName) jdk_22_method_1_code (1 : Nat) (Option.none : Option Jvm.ClassFile.FieldType)).before args0 about1 = true := code_word (m := ⟨11, 0⟩) (meth := k11m0) (c := k11c0) (by decide +kernel) rfl rfl rfl (by decide +kernel)
set_option maxRecDepth 65536 in
theorem w_c6 : (Jvm.Cond.code ({ cls := "com/example/guest_panes/guestpanes/Rect", name := "<init>", desc := "(IIII)V" } : Jvm.MethodName) prog_19_method_1_code (5 : Nat) (Option.none : Option Jvm.ClassFile.FieldType)).before args0 about1 = true := code_word (m := ⟨19, 0⟩) (meth := k19m0) (c := k19c0) (by decide +kernel) rfl rfl rfl (by decide +kernel)
set_option maxRecDepth 65536 in
theorem w_c7 : (Jvm.Cond.code ({ cls := "java/lang/Record", name := "<init>", desc := "()V" } : Jvm.MethodName) jdk_30_method_1_code (1 : Nat) (Option.none : Option Jvm.ClassFile.FieldType)).before args0 about1 = true := code_word (m := ⟨18, 0⟩) (meth := k18m0) (c := k18c0) (by decide +kernel) rfl rfl rfl (by decide +kernel)
set_option maxRecDepth 65536 in
theorem w_c8 : (Jvm.Cond.code ({ cls := "com/example/guest_panes/guestpanes/FreeWindow", name := "<init>", desc := "(Ljava/lang/String;Lcom/example/guest_panes/guestpanes/Display;Lcom/example/guest_panes/guestpanes/Rect;)V" } : Jvm.MethodName) prog_10_method_1_code (4 : Nat) (Option.none : Option Jvm.ClassFile.FieldType)).before args0 about1 = true := code_word (m := ⟨21, 0⟩) (meth := k21m0) (c := k21c0) (by decide +kernel) rfl rfl rfl (by decide +kernel)
set_option maxRecDepth 65536 in
theorem w_c9 : (Jvm.Cond.code ({ cls := "com/example/guest_panes/guestpanes/PaneOwner", name := "<init>", desc := "(Lcom/example/guest_panes/guestpanes/Display;)V" } : Jvm.MethodName) prog_18_method_1_code (2 : Nat) (Option.none : Option Jvm.ClassFile.FieldType)).before args0 about1 = true := code_word (m := ⟨20, 0⟩) (meth := k20m0) (c := k20c0) (by decide +kernel) rfl rfl rfl (by decide +kernel)
set_option maxRecDepth 65536 in
theorem w_c10 : (Jvm.Cond.code ({ cls := "com/example/guest_panes/guestpanes/Display", name := "color", desc := "()I" } : Jvm.MethodName) prog_6_method_5_code (1 : Nat) (Option.some Jvm.ClassFile.FieldType.int)).before args0 about1 = true := code_word (m := ⟨2, 1⟩) (meth := k2m1) (c := k2c1) (by decide +kernel) rfl rfl rfl (by decide +kernel)
set_option maxRecDepth 65536 in
theorem w_c11 : (Jvm.Cond.code ({ cls := "com/example/guest_panes/guestpanes/Pane", name := "<init>", desc := "(Ljava/lang/String;Lcom/example/guest_panes/guestpanes/PaneOwner;Lcom/example/guest_panes/guestpanes/Rect;I)V" } : Jvm.MethodName) prog_17_method_1_code (5 : Nat) (Option.none : Option Jvm.ClassFile.FieldType)).before args0 about1 = true := code_word (m := ⟨22, 0⟩) (meth := k22m0) (c := k22c0) (by decide +kernel) rfl rfl rfl (by decide +kernel)
set_option maxRecDepth 65536 in
theorem w_c12 : (Jvm.Cond.code ({ cls := "com/example/guest_panes/guestpanes/PaneOwner", name := "panes", desc := "()Ljava/util/List;" } : Jvm.MethodName) prog_18_method_9_code (1 : Nat) (Option.some (Jvm.ClassFile.FieldType.object "java/util/List"))).before args0 about1 = true := code_word (m := ⟨20, 1⟩) (meth := k20m1) (c := k20c1) (by decide +kernel) rfl rfl rfl (by decide +kernel)
set_option maxRecDepth 65536 in
theorem w_c13 : (Jvm.Cond.code ({ cls := "java/util/ArrayList", name := "add", desc := "(Ljava/lang/Object;)Z" } : Jvm.MethodName) jdk_38_method_25_code (2 : Nat) (Option.some Jvm.ClassFile.FieldType.boolean)).before args0 about1 = true := code_word (m := ⟨17, 4⟩) (meth := k17m4) (c := k17c4) (by decide +kernel) rfl rfl rfl (by decide +kernel)
set_option maxRecDepth 65536 in
theorem w_c14 : (Jvm.Cond.code ({ cls := "java/util/ArrayList", name := "add", desc := "(Ljava/lang/Object;[Ljava/lang/Object;I)V" } : Jvm.MethodName) jdk_38_method_24_code (4 : Nat) (Option.none : Option Jvm.ClassFile.FieldType)).before args0 about1 = true := code_word (m := ⟨17, 3⟩) (meth := k17m3) (c := k17c3) (by decide +kernel) rfl rfl rfl (by decide +kernel)
set_option maxRecDepth 65536 in
theorem w_c15 : (Jvm.Cond.code ({ cls := "java/util/ArrayList", name := "grow", desc := "()[Ljava/lang/Object;" } : Jvm.MethodName) jdk_38_method_7_code (1 : Nat) (Option.some (Jvm.ClassFile.FieldType.array (Jvm.ClassFile.FieldType.object "java/lang/Object")))).before args0 about1 = true := code_word (m := ⟨17, 2⟩) (meth := k17m2) (c := k17c2) (by decide +kernel) rfl rfl rfl (by decide +kernel)
set_option maxRecDepth 65536 in
theorem w_c16 : (Jvm.Cond.code ({ cls := "java/util/ArrayList", name := "grow", desc := "(I)[Ljava/lang/Object;" } : Jvm.MethodName) jdk_38_method_6_code (4 : Nat) (Option.some (Jvm.ClassFile.FieldType.array (Jvm.ClassFile.FieldType.object "java/lang/Object")))).before args0 about1 = true := code_word (m := ⟨17, 1⟩) (meth := k17m1) (c := k17c1) (by decide +kernel) rfl rfl rfl (by decide +kernel)
set_option maxRecDepth 65536 in
theorem w_c17 : (Jvm.Cond.code ({ cls := "java/lang/Math", name := "max", desc := "(II)I" } : Jvm.MethodName) jdk_29_method_65_code (2 : Nat) (Option.some Jvm.ClassFile.FieldType.int)).before args0 about1 = true := code_word (m := ⟨23, 2⟩) (meth := k23m2) (c := k23c2) (by decide +kernel) rfl rfl rfl (by decide +kernel)
set_option maxRecDepth 65536 in
theorem w_c18 : (Jvm.Cond.code ({ cls := "com/example/guest_panes/guestpanes/FreeWindow", name := "pairWith", desc := "(Lcom/example/guest_panes/guestpanes/FreeWindow;)V" } : Jvm.MethodName) prog_10_method_6_code (2 : Nat) (Option.none : Option Jvm.ClassFile.FieldType)).before args0 about1 = true := code_word (m := ⟨21, 2⟩) (meth := k21m2) (c := k21c2) (by decide +kernel) rfl rfl rfl (by decide +kernel)
set_option maxRecDepth 65536 in
theorem w_c19 : (Jvm.Cond.code ({ cls := "com/example/guest_panes/guestpanes/FreeWindowPairWithPinLaw", name := "check", desc := "(Lcom/example/guest_panes/guestpanes/FreeWindow;Lcom/example/guest_panes/guestpanes/FreeWindow;ZLcom/example/guest_panes/guestpanes/Rect;IIII)Z" } : Jvm.MethodName) method_3_code (10 : Nat) (Option.some Jvm.ClassFile.FieldType.boolean)).before args0 about1 = true := code_word (m := ⟨1, 2⟩) (meth := k1m2) (c := k1c2) (by decide +kernel) rfl rfl rfl (by decide +kernel)
set_option maxRecDepth 65536 in
theorem w_c20 : (Jvm.Cond.code ({ cls := "com/example/guest_panes/guestpanes/FreeWindow", name := "partner", desc := "()Lcom/example/guest_panes/guestpanes/FreeWindow;" } : Jvm.MethodName) prog_10_method_5_code (1 : Nat) (Option.some (Jvm.ClassFile.FieldType.object "com/example/guest_panes/guestpanes/FreeWindow"))).before args0 about1 = true := code_word (m := ⟨21, 1⟩) (meth := k21m1) (c := k21c1) (by decide +kernel) rfl rfl rfl (by decide +kernel)
set_option maxRecDepth 65536 in
theorem w_c21 : (Jvm.Cond.code ({ cls := "com/example/guest_panes/guestpanes/FreeWindow", name := "partnerBounds", desc := "(Lcom/example/guest_panes/guestpanes/Rect;)Lcom/example/guest_panes/guestpanes/Rect;" } : Jvm.MethodName) prog_10_method_7_code (2 : Nat) (Option.some (Jvm.ClassFile.FieldType.object "com/example/guest_panes/guestpanes/Rect"))).before args0 about1 = true := code_word (m := ⟨21, 3⟩) (meth := k21m3) (c := k21c3) (by decide +kernel) rfl rfl rfl (by decide +kernel)
set_option maxRecDepth 65536 in
theorem w_c22 : (Jvm.Cond.code ({ cls := "com/example/guest_panes/guestpanes/FreeWindow", name := "rightOf", desc := "(Lcom/example/guest_panes/guestpanes/Rect;)Lcom/example/guest_panes/guestpanes/Rect;" } : Jvm.MethodName) prog_10_method_8_code (1 : Nat) (Option.some (Jvm.ClassFile.FieldType.object "com/example/guest_panes/guestpanes/Rect"))).before args0 about1 = true := code_word (m := ⟨21, 4⟩) (meth := k21m4) (c := k21c4) (by decide +kernel) rfl rfl rfl (by decide +kernel)
set_option maxRecDepth 65536 in
theorem w_c23 : (Jvm.Cond.code ({ cls := "com/example/guest_panes/guestpanes/Rect", name := "width", desc := "()I" } : Jvm.MethodName) prog_19_method_2_code (1 : Nat) (Option.some Jvm.ClassFile.FieldType.int)).before args0 about1 = true := code_word (m := ⟨19, 1⟩) (meth := k19m1) (c := k19c1) (by decide +kernel) rfl rfl rfl (by decide +kernel)
set_option maxRecDepth 65536 in
theorem w_c24 : (Jvm.Cond.code ({ cls := "com/example/guest_panes/guestpanes/Rect", name := "offset", desc := "(II)Lcom/example/guest_panes/guestpanes/Rect;" } : Jvm.MethodName) prog_19_method_6_code (3 : Nat) (Option.some (Jvm.ClassFile.FieldType.object "com/example/guest_panes/guestpanes/Rect"))).before args0 about1 = true := code_word (m := ⟨19, 2⟩) (meth := k19m2) (c := k19c2) (by decide +kernel) rfl rfl rfl (by decide +kernel)
set_option maxRecDepth 65536 in
theorem w_c25 : (Jvm.Cond.code ({ cls := "java/lang/Math", name := "addExact", desc := "(II)I" } : Jvm.MethodName) jdk_29_method_24_code (3 : Nat) (Option.some Jvm.ClassFile.FieldType.int)).before args0 about1 = true := code_word (m := ⟨23, 1⟩) (meth := k23m1) (c := k23c1) (by decide +kernel) rfl rfl rfl (by decide +kernel)
set_option maxRecDepth 65536 in
theorem w_c26 : (Jvm.Cond.code ({ cls := "com/example/guest_panes/guestpanes/Rect", name := "left", desc := "()I" } : Jvm.MethodName) prog_19_method_14_code (1 : Nat) (Option.some Jvm.ClassFile.FieldType.int)).before args0 about1 = true := code_word (m := ⟨19, 3⟩) (meth := k19m3) (c := k19c3) (by decide +kernel) rfl rfl rfl (by decide +kernel)
set_option maxRecDepth 65536 in
theorem w_c27 : (Jvm.Cond.code ({ cls := "com/example/guest_panes/guestpanes/Rect", name := "top", desc := "()I" } : Jvm.MethodName) prog_19_method_15_code (1 : Nat) (Option.some Jvm.ClassFile.FieldType.int)).before args0 about1 = true := code_word (m := ⟨19, 4⟩) (meth := k19m4) (c := k19c4) (by decide +kernel) rfl rfl rfl (by decide +kernel)
set_option maxRecDepth 65536 in
theorem w_c28 : (Jvm.Cond.code ({ cls := "com/example/guest_panes/guestpanes/Rect", name := "right", desc := "()I" } : Jvm.MethodName) prog_19_method_16_code (1 : Nat) (Option.some Jvm.ClassFile.FieldType.int)).before args0 about1 = true := code_word (m := ⟨19, 5⟩) (meth := k19m5) (c := k19c5) (by decide +kernel) rfl rfl rfl (by decide +kernel)
set_option maxRecDepth 65536 in
theorem w_c29 : (Jvm.Cond.code ({ cls := "com/example/guest_panes/guestpanes/Rect", name := "bottom", desc := "()I" } : Jvm.MethodName) prog_19_method_17_code (1 : Nat) (Option.some Jvm.ClassFile.FieldType.int)).before args0 about1 = true := code_word (m := ⟨19, 6⟩) (meth := k19m6) (c := k19c6) (by decide +kernel) rfl rfl rfl (by decide +kernel)
def codes1 : List Jvm.Cond := [Jvm.Cond.code x code maxLocals ret, Jvm.Cond.code ({ cls := "com/example/guest_panes/guestpanes/Display", name := "<init>", desc := "(Ljava/lang/String;III)V" } : Jvm.MethodName) prog_6_method_1_code (5 : Nat) (Option.none : Option Jvm.ClassFile.FieldType), Jvm.Cond.code ({ cls := "java/lang/Object", name := "<init>", desc := "()V" } : Jvm.MethodName) object_method_1_code (1 : Nat) (Option.none : Option Jvm.ClassFile.FieldType), Jvm.Cond.code ({ cls := "java/util/ArrayList", name := "<init>", desc := "()V" } : Jvm.MethodName) jdk_38_method_2_code (1 : Nat) (Option.none : Option Jvm.ClassFile.FieldType), Jvm.Cond.code ({ cls := "java/util/AbstractList", name := "<init>", desc := "()V" } : Jvm.MethodName) jdk_39_method_1_code (1 : Nat) (Option.none : Option Jvm.ClassFile.FieldType), Jvm.Cond.code ({ cls := "java/util/AbstractCollection", name := "<init>", desc := "()V" } : Jvm.MethodName) jdk_22_method_1_code (1 : Nat) (Option.none : Option Jvm.ClassFile.FieldType), Jvm.Cond.code ({ cls := "com/example/guest_panes/guestpanes/Rect", name := "<init>", desc := "(IIII)V" } : Jvm.MethodName) prog_19_method_1_code (5 : Nat) (Option.none : Option Jvm.ClassFile.FieldType), Jvm.Cond.code ({ cls := "java/lang/Record", name := "<init>", desc := "()V" } : Jvm.MethodName) jdk_30_method_1_code (1 : Nat) (Option.none : Option Jvm.ClassFile.FieldType), Jvm.Cond.code ({ cls := "com/example/guest_panes/guestpanes/FreeWindow", name := "<init>", desc := "(Ljava/lang/String;Lcom/example/guest_panes/guestpanes/Display;Lcom/example/guest_panes/guestpanes/Rect;)V" } : Jvm.MethodName) prog_10_method_1_code (4 : Nat) (Option.none : Option Jvm.ClassFile.FieldType), Jvm.Cond.code ({ cls := "com/example/guest_panes/guestpanes/PaneOwner", name := "<init>", desc := "(Lcom/example/guest_panes/guestpanes/Display;)V" } : Jvm.MethodName) prog_18_method_1_code (2 : Nat) (Option.none : Option Jvm.ClassFile.FieldType), Jvm.Cond.code ({ cls := "com/example/guest_panes/guestpanes/Display", name := "color", desc := "()I" } : Jvm.MethodName) prog_6_method_5_code (1 : Nat) (Option.some Jvm.ClassFile.FieldType.int), Jvm.Cond.code ({ cls := "com/example/guest_panes/guestpanes/Pane", name := "<init>", desc := "(Ljava/lang/String;Lcom/example/guest_panes/guestpanes/PaneOwner;Lcom/example/guest_panes/guestpanes/Rect;I)V" } : Jvm.MethodName) prog_17_method_1_code (5 : Nat) (Option.none : Option Jvm.ClassFile.FieldType), Jvm.Cond.code ({ cls := "com/example/guest_panes/guestpanes/PaneOwner", name := "panes", desc := "()Ljava/util/List;" } : Jvm.MethodName) prog_18_method_9_code (1 : Nat) (Option.some (Jvm.ClassFile.FieldType.object "java/util/List")), Jvm.Cond.code ({ cls := "java/util/ArrayList", name := "add", desc := "(Ljava/lang/Object;)Z" } : Jvm.MethodName) jdk_38_method_25_code (2 : Nat) (Option.some Jvm.ClassFile.FieldType.boolean), Jvm.Cond.code ({ cls := "java/util/ArrayList", name := "add", desc := "(Ljava/lang/Object;[Ljava/lang/Object;I)V" } : Jvm.MethodName) jdk_38_method_24_code (4 : Nat) (Option.none : Option Jvm.ClassFile.FieldType), Jvm.Cond.code ({ cls := "java/util/ArrayList", name := "grow", desc := "()[Ljava/lang/Object;" } : Jvm.MethodName) jdk_38_method_7_code (1 : Nat) (Option.some (Jvm.ClassFile.FieldType.array (Jvm.ClassFile.FieldType.object "java/lang/Object"))), Jvm.Cond.code ({ cls := "java/util/ArrayList", name := "grow", desc := "(I)[Ljava/lang/Object;" } : Jvm.MethodName) jdk_38_method_6_code (4 : Nat) (Option.some (Jvm.ClassFile.FieldType.array (Jvm.ClassFile.FieldType.object "java/lang/Object"))), Jvm.Cond.code ({ cls := "java/lang/Math", name := "max", desc := "(II)I" } : Jvm.MethodName) jdk_29_method_65_code (2 : Nat) (Option.some Jvm.ClassFile.FieldType.int), Jvm.Cond.code ({ cls := "com/example/guest_panes/guestpanes/FreeWindow", name := "pairWith", desc := "(Lcom/example/guest_panes/guestpanes/FreeWindow;)V" } : Jvm.MethodName) prog_10_method_6_code (2 : Nat) (Option.none : Option Jvm.ClassFile.FieldType), Jvm.Cond.code ({ cls := "com/example/guest_panes/guestpanes/FreeWindowPairWithPinLaw", name := "check", desc := "(Lcom/example/guest_panes/guestpanes/FreeWindow;Lcom/example/guest_panes/guestpanes/FreeWindow;ZLcom/example/guest_panes/guestpanes/Rect;IIII)Z" } : Jvm.MethodName) method_3_code (10 : Nat) (Option.some Jvm.ClassFile.FieldType.boolean), Jvm.Cond.code ({ cls := "com/example/guest_panes/guestpanes/FreeWindow", name := "partner", desc := "()Lcom/example/guest_panes/guestpanes/FreeWindow;" } : Jvm.MethodName) prog_10_method_5_code (1 : Nat) (Option.some (Jvm.ClassFile.FieldType.object "com/example/guest_panes/guestpanes/FreeWindow")), Jvm.Cond.code ({ cls := "com/example/guest_panes/guestpanes/FreeWindow", name := "partnerBounds", desc := "(Lcom/example/guest_panes/guestpanes/Rect;)Lcom/example/guest_panes/guestpanes/Rect;" } : Jvm.MethodName) prog_10_method_7_code (2 : Nat) (Option.some (Jvm.ClassFile.FieldType.object "com/example/guest_panes/guestpanes/Rect")), Jvm.Cond.code ({ cls := "com/example/guest_panes/guestpanes/FreeWindow", name := "rightOf", desc := "(Lcom/example/guest_panes/guestpanes/Rect;)Lcom/example/guest_panes/guestpanes/Rect;" } : Jvm.MethodName) prog_10_method_8_code (1 : Nat) (Option.some (Jvm.ClassFile.FieldType.object "com/example/guest_panes/guestpanes/Rect")), Jvm.Cond.code ({ cls := "com/example/guest_panes/guestpanes/Rect", name := "width", desc := "()I" } : Jvm.MethodName) prog_19_method_2_code (1 : Nat) (Option.some Jvm.ClassFile.FieldType.int), Jvm.Cond.code ({ cls := "com/example/guest_panes/guestpanes/Rect", name := "offset", desc := "(II)Lcom/example/guest_panes/guestpanes/Rect;" } : Jvm.MethodName) prog_19_method_6_code (3 : Nat) (Option.some (Jvm.ClassFile.FieldType.object "com/example/guest_panes/guestpanes/Rect")), Jvm.Cond.code ({ cls := "java/lang/Math", name := "addExact", desc := "(II)I" } : Jvm.MethodName) jdk_29_method_24_code (3 : Nat) (Option.some Jvm.ClassFile.FieldType.int), Jvm.Cond.code ({ cls := "com/example/guest_panes/guestpanes/Rect", name := "left", desc := "()I" } : Jvm.MethodName) prog_19_method_14_code (1 : Nat) (Option.some Jvm.ClassFile.FieldType.int), Jvm.Cond.code ({ cls := "com/example/guest_panes/guestpanes/Rect", name := "top", desc := "()I" } : Jvm.MethodName) prog_19_method_15_code (1 : Nat) (Option.some Jvm.ClassFile.FieldType.int), Jvm.Cond.code ({ cls := "com/example/guest_panes/guestpanes/Rect", name := "right", desc := "()I" } : Jvm.MethodName) prog_19_method_16_code (1 : Nat) (Option.some Jvm.ClassFile.FieldType.int), Jvm.Cond.code ({ cls := "com/example/guest_panes/guestpanes/Rect", name := "bottom", desc := "()I" } : Jvm.MethodName) prog_19_method_17_code (1 : Nat) (Option.some Jvm.ClassFile.FieldType.int)]
set_option maxRecDepth 65536 in
theorem codes_eq : words1.filter isCode = codes1 := rfl
theorem w_codes : ∀ c ∈ words1.filter isCode, c.before args0 about1 = true := by
  rw [codes_eq]
  intro c hc
  simp only [codes1, List.mem_cons, List.not_mem_nil, or_false] at hc
  rcases hc with rfl | rfl | rfl | rfl | rfl | rfl | rfl | rfl | rfl | rfl | rfl | rfl | rfl | rfl | rfl | rfl | rfl | rfl | rfl | rfl | rfl | rfl | rfl | rfl | rfl | rfl | rfl | rfl | rfl | rfl
  · exact w_c0
  · exact w_c1
  · exact w_c2
  · exact w_c3
  · exact w_c4
  · exact w_c5
  · exact w_c6
  · exact w_c7
  · exact w_c8
  · exact w_c9
  · exact w_c10
  · exact w_c11
  · exact w_c12
  · exact w_c13
  · exact w_c14
  · exact w_c15
  · exact w_c16
  · exact w_c17
  · exact w_c18
  · exact w_c19
  · exact w_c20
  · exact w_c21
  · exact w_c22
  · exact w_c23
  · exact w_c24
  · exact w_c25
  · exact w_c26
  · exact w_c27
  · exact w_c28
  · exact w_c29
set_option maxRecDepth 65536 in
theorem w_t1 : (words1.take 24).all (fun c => isCode c || c.before args0 about1) = true := by decide +kernel
set_option maxRecDepth 65536 in
theorem w_t2 : ((words1.drop 24).take 24).all (fun c => isCode c || c.before args0 about1) = true := by decide +kernel
set_option maxRecDepth 65536 in
theorem w_t3 : (((words1.drop 24).drop 24).take 24).all (fun c => isCode c || c.before args0 about1) = true := by decide +kernel
set_option maxRecDepth 65536 in
theorem w_t4 : ((((words1.drop 24).drop 24).drop 24).take 24).all (fun c => isCode c || c.before args0 about1) = true := by decide +kernel
set_option maxRecDepth 65536 in
theorem w_t5 : (((((words1.drop 24).drop 24).drop 24).drop 24).take 24).all (fun c => isCode c || c.before args0 about1) = true := by decide +kernel
set_option maxRecDepth 65536 in
theorem w_t6 : ((((((words1.drop 24).drop 24).drop 24).drop 24).drop 24).take 24).all (fun c => isCode c || c.before args0 about1) = true := by decide +kernel
set_option maxRecDepth 65536 in
theorem w_t7 : (((((((words1.drop 24).drop 24).drop 24).drop 24).drop 24).drop 24).take 24).all (fun c => isCode c || c.before args0 about1) = true := by decide +kernel
set_option maxRecDepth 65536 in
theorem w_t8 : ((((((((words1.drop 24).drop 24).drop 24).drop 24).drop 24).drop 24).drop 24).take 24).all (fun c => isCode c || c.before args0 about1) = true := by decide +kernel
set_option maxRecDepth 65536 in
theorem w_t9 : (((((((((words1.drop 24).drop 24).drop 24).drop 24).drop 24).drop 24).drop 24).drop 24).take 24).all (fun c => isCode c || c.before args0 about1) = true := by decide +kernel
set_option maxRecDepth 65536 in
theorem w_t10 : (((((((((words1.drop 24).drop 24).drop 24).drop 24).drop 24).drop 24).drop 24).drop 24).drop 24).all (fun c => isCode c || c.before args0 about1) = true := by decide +kernel
theorem w_tables : (allAtoms (Jvm.Cond.code x code maxLocals ret :: tables_1)).before args0 about1 = true := by
  rw [allAtoms_all]
  show words1.all (fun c => c.before args0 about1) = true
  refine all_split ?_ w_codes
  rw [← List.take_append_drop 24 words1, List.all_append, w_t1, ← List.take_append_drop 24 (words1.drop 24), List.all_append, w_t2, ← List.take_append_drop 24 ((words1.drop 24).drop 24), List.all_append, w_t3, ← List.take_append_drop 24 (((words1.drop 24).drop 24).drop 24), List.all_append, w_t4, ← List.take_append_drop 24 ((((words1.drop 24).drop 24).drop 24).drop 24), List.all_append, w_t5, ← List.take_append_drop 24 (((((words1.drop 24).drop 24).drop 24).drop 24).drop 24), List.all_append, w_t6, ← List.take_append_drop 24 ((((((words1.drop 24).drop 24).drop 24).drop 24).drop 24).drop 24), List.all_append, w_t7, ← List.take_append_drop 24 (((((((words1.drop 24).drop 24).drop 24).drop 24).drop 24).drop 24).drop 24), List.all_append, w_t8, ← List.take_append_drop 24 ((((((((words1.drop 24).drop 24).drop 24).drop 24).drop 24).drop 24).drop 24).drop 24), List.all_append, w_t9, w_t10]
  rfl
set_option maxRecDepth 65536 in
theorem w_rest : rest_1_c.before args0 about1 = true := by decide +kernel
set_option maxRecDepth 65536 in
theorem w_case : (Jvm.Cond.and given_1 narrow_1).before args0 about1 = true := by decide +kernel
theorem w_applies : (headSpec (Jvm.Cond.code x code maxLocals ret :: tables_1) room_1).applies x e0.platform about1 = true :=
  (Spec.applies_iff w_frames).mpr ⟨w_running, w_runnable, w_alone, w_named, w_hears, w_ripe, w_room, w_tables⟩
theorem atStart : AtStart classFile x code maxLocals ret World_1 tables_1 room_1 Calls_1 rest_1 Pre_1 launch0 p0 e0 about1 theMethod args0 below0 :=
  ⟨lists_1, trivial, launch0.admits_env _ _ _, launch0.least_env, fairChoices_fair.cas, fairChoices_fair.clock, w_frames, w_args, w_heap, w_applies, trivial, w_rest, w_case⟩
end start1
theorem witness_1 : WitnessClaimed_1 := ⟨start1.p0, start1.e0, start1.about1, start1.theMethod, start1.args0, start1.below0, start1.atStart⟩
end Jvm.Pilot.@@N@@
