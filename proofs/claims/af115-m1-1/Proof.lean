import JvmDerived
import JvmDerived.Pilot.@@N@@Statement
import JvmDerived.Pilot.@@N@@Code
set_option linter.unusedVariables false
set_option linter.unusedSimpArgs false
namespace Jvm.Pilot.@@N@@
open Jvm Jvm.ClassFile Sem Op Lib Jvm.Free Jvm.Stand Jvm.LawKit Jvm.RoadKit Bundle Jvm.Pilot.@@N@@.Jvm.D
section OwnKit
variable {p : Program} {l : Launch} {e : Env} {R : Room} {s : State} {m : MethodId} {args : Array Value} {below : List Frame} {meth : Method} {c : Code} {T : State} {locs : List Loc} {cells slots : Nat}
def own_G (tb : Tables) (e : Env) (below : List Frame) (s : State) (Q : Option Value → Heap → List Loc → Prop) (k n : Nat) (A : State) : Prop :=
  ∃ u o, Steps tb e below A u ∧ u.status = .running ∧ Ended u below o ∧ ∃ v L, o = Outcome.returned v ∧ Q v u.heap L ∧ FrameEnd s o u L k n
theorem own_go {tb : Tables} {Q : Option Value → Heap → List Loc → Prop} {k n : Nat} {A B : State} (h : ∀ t, Steps tb e below B t → Steps tb e below A t) (g : own_G tb e below s Q k n B) : own_G tb e below s Q k n A := by
  obtain ⟨u, o, h1, r⟩ := g; exact ⟨u, o, h u h1, r⟩
theorem own_ret (X : Stand p l e R s m args below meth c T locs cells slots) (hx : p.tables.exec = Jvm.exec) {pc : Nat} {Ls : Array Slot} {w : Value} {t : FieldType} {i : Instr} {rest : List Value} (hret : meth.sig.returnType = some t) (hn : narrow t w = w)
    (hi : (i = .ireturn ∧ (t = .int ∨ t = .boolean ∨ t = .byte ∨ t = .char ∨ t = .short) ∧ ∃ z, w = .int z) ∨ (i = .lreturn ∧ t = .long ∧ ∃ z, w = .long z) ∨ (i = .dreturn ∧ t = .double ∧ ∃ z, w = .double z) ∨ (i = .freturn ∧ t = .float ∧ ∃ z, w = .float z) ∨ (i = .areturn ∧ t.isReference = true ∧ w.isRef = true))
    (hd : decode c.code pc = .ok (i, 1)) (hlocks : meth.locks = false) {Q : Option Value → Heap → List Loc → Prop} {k n : Nat} (hQ : Q (some w) T.heap locs) (hk : cells ≤ k) (hs : slots ≤ n) : own_G p.tables e below s Q k n (T.setTop (mkF m pc Ls (w :: rest))) := by
  obtain ⟨fs, hr, hrun, hended, hW, hsame⟩ := X.leave (v := some w) (fun h => by rw [hret] at h; cases h) hlocks
  exact ⟨_, _, retOut X hx hret hn hi hd hr, hrun, hended, _, _, rfl, hQ, ⟨_, rfl⟩, hW, hsame.mono hk hs⟩
theorem own_retV (X : Stand p l e R s m args below meth c T locs cells slots) (hx : p.tables.exec = Jvm.exec) {pc : Nat} {Ls : Array Slot} (hret : meth.sig.returnType = none)
    (hd : decode c.code pc = .ok (.return_, 1)) (hlocks : meth.locks = false) {Q : Option Value → Heap → List Loc → Prop} {k n : Nat} (hQ : Q none T.heap locs) (hk : cells ≤ k) (hs : slots ≤ n) : own_G p.tables e below s Q k n (T.setTop (mkF m pc Ls [])) := by
  obtain ⟨fs, hr, hrun, hended, hW, hsame⟩ := X.leave (v := none) (fun _ => rfl) hlocks
  exact ⟨_, _, X.returnOut hx hret hd hr, hrun, hended, _, _, rfl, hQ, ⟨_, rfl⟩, hW, hsame.mono hk hs⟩
def own_Met (l : Launch) (Z : State) (y : MethodName) (bytes : ByteArray) (maxL : Nat) (ret : Option FieldType) (ws : List Jvm.Cond) (rm : Room) (as' : Array Value) (h0 : Heap) (Q : Option Value → Heap → List Loc → Prop) : Prop :=
  MetFree l y (head1 (Jvm.Cond.code y bytes maxL ret :: ws) rm) (fun a U => a = as' ∧ Z.Warmed39 U.vm ∧ U.heap = h0) (fun _ _ _ _ _ => True) (fun _ U o U' => ∃ v L, o = .returned v ∧ Q v U'.heap L ∧ FrameEnd U o U' L rm.cells rm.slots)
theorem own_body {l : Launch} {Z : State} {y : MethodName} {bytes : ByteArray} {maxL : Nat} {ret : Option FieldType} {ws : List Jvm.Cond} {rm : Room} {as' : Array Value} {h0 : Heap} {Q : Option Value → Heap → List Loc → Prop} (hp : plainFor y = true)
    (H : ∀ (p : Program) (e : Env) (s : State) (m : MethodId) (below : List Frame) (meth : Method) (c : Code) (s₁ : State), p.tables.exec = Jvm.exec → c.code = bytes → c.maxLocals = maxL → s.vm.findClass y.cls = some m.cls → meth.name = y.name → meth.locks = false → meth.sig.returnType = ret → Z.Warmed39 s.vm → Stand p l e rm s m as' below meth c s₁ [] 0 0 → s₁.heap = h0 →
      own_G p.tables e below s Q rm.cells rm.slots (s₁.setTop (entryFrame m as' maxL))) : own_Met l Z y bytes maxL ret ws rm as' h0 Q := by
  refine MetFree.of_bodySF hp hisR ?_
  intro p e s m args below meth c s₁ Bd hml0 hP hK
  obtain ⟨rfl, hZ, hh⟩ := hP
  exact H p e s m below meth c s₁ Bd.exec Bd.bytes hml0 (findClass_of_methodNamed Bd.named) (name_of_methodNamed Bd.named Bd.method).1 (BodyLoose.notSynchronized Bd) Bd.returns hZ (Stand.of_body Bd) (by rw [← hh, Bd.state]; rfl)
theorem own_back {Z : State} {a0 : Array Value} {h : Heap} {y : MethodName} {bytes : ByteArray} {maxL : Nat} {ret : Option FieldType} {rm : Room} {len W : Nat} {as' : Array Value} {Q : Option Value → Heap → List Loc → Prop} (hM : own_Met l Z y bytes maxL ret [] rm as' h Q)
    (hZ : Z.Warmed39 s.vm) (wc : (Jvm.Cond.code y bytes maxL ret).before a0 Z = true) (wz : (Jvm.Cond.initialized y.cls).before a0 Z = true) (hf : rm.frames + 1 ≤ R.frames) (hl : W + (maxL + 11) + rm.locals ≤ R.locals) :
    Back l R p e below s args y len W (fun A a => a = as' ∧ A.U.heap = h ∧ A.cells + rm.cells ≤ R.cells ∧ A.slots + rm.slots ≤ R.slots) (fun A _ v B => ∃ L, Q v B.U.heap L ∧ B.locs = A.locs ++ L ∧ B.cells = A.cells + rm.cells ∧ B.slots = A.slots + rm.slots) :=
  backOf (Q := Q) hM hZ wc wz hf hl
theorem own_xt {h0 h h' : Heap} (E : Ext h0 h) (F : Ext h h') : Ext h0 h' := ⟨Nat.le_trans E.1 F.1, fun a c q => F.2 a c (E.2 a c q)⟩
theorem own_xr (h : Heap) : Ext h h := ⟨Nat.le_refl _, fun _ _ q => q⟩
theorem own_xw {h0 h h' : Heap} {a : Addr} {sl : Nat} {v : Value} (E : Ext h0 h) (W : Wr h h' a sl v) (q : h0.size ≤ a) : Ext h0 h' := by
  have K := (Keep.of_wr W)
  exact ⟨Nat.le_trans E.1 K.1, fun x c r => K.2.1 x c (E.2 x c r) fun z => by
    cases List.mem_singleton.mp z
    exact absurd (Array.getElem?_eq_some_iff.mp r).1 (Nat.not_lt.mpr q)⟩
theorem own_fI {Z : State} {args : Array Value} {t : Term} {F fn fd : String} {a : Addr} {k : Int32} (ev : t.eval args Z none [] Z = some (.ref a)) (h : (Cond.eq (Term.field t F fn fd) (Term.int k)).value args Z none Z [] = some true) : Fld Z Z.heap a F fn fd (.int k) := by
  obtain ⟨x, y, h1, h2, h3, h4⟩ := cmp_v (Or.inl h)
  rw [fld_at ev] at h1
  cases (Term.int_eval k).symm.trans h2
  obtain ⟨z, rfl⟩ := h4
  have e1 : (Term.field t F fn fd).eval args Z none [] Z = some (.int z) := (fld_at ev).trans h1
  simp only [Cond.value, e1, Term.int_eval] at h
  have hz : z = k := by simpa using h
  subst hz
  exact Fld.start h1
theorem own_fJ {Z : State} {args : Array Value} {t : Term} {F fn fd : String} {a : Addr} {k : Int64} (ev : t.eval args Z none [] Z = some (.ref a)) (h : (Cond.eq (Term.field t F fn fd) (Term.long k)).value args Z none Z [] = some true) : Fld Z Z.heap a F fn fd (.long k) := by
  obtain ⟨x, y, h1, h2, h3, h4⟩ := cmp_v (Or.inl h)
  rw [fld_at ev] at h1
  cases (long_at k).symm.trans h2
  obtain ⟨z, rfl⟩ := h4
  have e1 : (Term.field t F fn fd).eval args Z none [] Z = some (.long z) := (fld_at ev).trans h1
  have hz := gotT (eq_L e1 (long_at k)) h
  subst hz
  exact Fld.start h1
theorem own_len {Z : State} {args : Array Value} {t : Term} {a : Addr} {cl : Cell} {ty : FieldType} {k : Int32} (ev : t.eval args Z none [] Z = some (.ref a)) (A : Arr Z Z.heap a cl ty) (h : (Cond.eq (Term.length t) (Term.int k)).value args Z none Z [] = some true) : cl.slots.size < 2 ^ 31 ∧ cl.slots.size.toInt32 = k := by
  have ha := Arr.fin (Vm.Alike.refl _) A
  obtain ⟨x, y, h1, h2, h3, h4⟩ := cmp_v (Or.inl h)
  by_cases hl : cl.slots.size < 2 ^ 31
  · have e1 := len_f (o := none) (idx := []) (first := Z) (args := args) ev ha hl
    simp only [Cond.value, e1, Term.int_eval] at h
    exact ⟨hl, by simpa using h⟩
  · simp [Term.eval, ev, ha, hl] at h1
theorem own_elV {Z : State} {args : Array Value} {t u : Term} {a : Addr} {cl : Cell} {k : Int32} {v : Value} {i : Nat} (ev : t.eval args Z none [] Z = some (.ref a)) (hc : Z.heap[a]? = some cl) (hu : u.eval args Z none [] Z = some v) (h : (Cond.eq (Term.elem t (Term.int k)) u).value args Z none Z [] = some true) (hk : k.toNatClampNeg = i) : cl.slots[i]? = some v := by
  obtain ⟨x, y, h1, h2, h3, h4⟩ := cmp_v (Or.inl h)
  cases hu.symm.trans h2
  have q := (elem_in h1 ev (Term.int_eval k) hc).2
  rw [hk] at q
  rw [q]
  simp only [Cond.value, h1, hu] at h
  cases x <;> cases v <;> simp_all [Kin, Value.isRef]
theorem own_ne {Z : State} {h : Heap} {a b : Addr} {C n d : String} {k j : Int32} (F : Fld Z h a C n d (.int k)) (G : Fld Z h b C n d (.int j)) (q : k ≠ j) : a ≠ b := Fld.ne F G (fun e => q (Value.int.inj e))
theorem own_rem {x n : Int32} (h0 : 0 ≤ x.toInt) (h1 : 0 < n.toInt) : 0 ≤ (x % n).toInt ∧ (x % n).toInt < n.toInt := by
  have := (c_iremV x n).1 h0 h1; exact ⟨this.1, this.2.1⟩
theorem own_msk (x : Int32) : 0 ≤ (x &&& (2147483647 : Int32)).toInt := (c_and x 2147483647 (by decide)).1
end OwnKit
def own_W (Z : State) (A : Nat → Addr) : Prop := Sta Z Z.heap "com/example/ferrybus/ferrybus/codec/PacketType" "CONNECT" "Lcom/example/ferrybus/ferrybus/codec/PacketType;" (.ref (A 0)) ∧ Exa Z Z.heap (A 0) "com/example/ferrybus/ferrybus/codec/PacketType" ∧ Sta Z Z.heap "com/example/ferrybus/ferrybus/codec/PacketType" "PUBACK" "Lcom/example/ferrybus/ferrybus/codec/PacketType;" (.ref (A 1)) ∧ Exa Z Z.heap (A 1) "com/example/ferrybus/ferrybus/codec/PacketType" ∧ Sta Z Z.heap "com/example/ferrybus/ferrybus/codec/PacketType" "PUBREL" "Lcom/example/ferrybus/ferrybus/codec/PacketType;" (.ref (A 2)) ∧ Exa Z Z.heap (A 2) "com/example/ferrybus/ferrybus/codec/PacketType" ∧ Sta Z Z.heap "com/example/ferrybus/ferrybus/codec/PacketType" "DISCONNECT" "Lcom/example/ferrybus/ferrybus/codec/PacketType;" (.ref (A 3)) ∧ Exa Z Z.heap (A 3) "com/example/ferrybus/ferrybus/codec/PacketType" ∧ Sta Z Z.heap "com/example/ferrybus/ferrybus/codec/PacketType" "PUBCOMP" "Lcom/example/ferrybus/ferrybus/codec/PacketType;" (.ref (A 4)) ∧ Exa Z Z.heap (A 4) "com/example/ferrybus/ferrybus/codec/PacketType" ∧ Sta Z Z.heap "com/example/ferrybus/ferrybus/codec/PacketType" "AUTH" "Lcom/example/ferrybus/ferrybus/codec/PacketType;" (.ref (A 5)) ∧ Exa Z Z.heap (A 5) "com/example/ferrybus/ferrybus/codec/PacketType" ∧ Sta Z Z.heap "com/example/ferrybus/ferrybus/codec/PacketType" "SUBSCRIBE" "Lcom/example/ferrybus/ferrybus/codec/PacketType;" (.ref (A 6)) ∧ Exa Z Z.heap (A 6) "com/example/ferrybus/ferrybus/codec/PacketType" ∧ Sta Z Z.heap "com/example/ferrybus/ferrybus/codec/PacketType" "PUBLISH" "Lcom/example/ferrybus/ferrybus/codec/PacketType;" (.ref (A 7)) ∧ Exa Z Z.heap (A 7) "com/example/ferrybus/ferrybus/codec/PacketType" ∧ Sta Z Z.heap "com/example/ferrybus/ferrybus/codec/PacketType" "PINGREQ" "Lcom/example/ferrybus/ferrybus/codec/PacketType;" (.ref (A 8)) ∧ Exa Z Z.heap (A 8) "com/example/ferrybus/ferrybus/codec/PacketType" ∧ Sta Z Z.heap "com/example/ferrybus/ferrybus/codec/PacketType" "UNSUBACK" "Lcom/example/ferrybus/ferrybus/codec/PacketType;" (.ref (A 9)) ∧ Exa Z Z.heap (A 9) "com/example/ferrybus/ferrybus/codec/PacketType" ∧ Sta Z Z.heap "com/example/ferrybus/ferrybus/codec/PacketType" "SUBACK" "Lcom/example/ferrybus/ferrybus/codec/PacketType;" (.ref (A 10)) ∧ Exa Z Z.heap (A 10) "com/example/ferrybus/ferrybus/codec/PacketType" ∧ Sta Z Z.heap "com/example/ferrybus/ferrybus/codec/PacketType" "CONNACK" "Lcom/example/ferrybus/ferrybus/codec/PacketType;" (.ref (A 11)) ∧ Exa Z Z.heap (A 11) "com/example/ferrybus/ferrybus/codec/PacketType" ∧ Sta Z Z.heap "com/example/ferrybus/ferrybus/codec/PacketType" "PINGRESP" "Lcom/example/ferrybus/ferrybus/codec/PacketType;" (.ref (A 12)) ∧ Exa Z Z.heap (A 12) "com/example/ferrybus/ferrybus/codec/PacketType" ∧ Sta Z Z.heap "com/example/ferrybus/ferrybus/codec/PacketType" "PUBREC" "Lcom/example/ferrybus/ferrybus/codec/PacketType;" (.ref (A 13)) ∧ Exa Z Z.heap (A 13) "com/example/ferrybus/ferrybus/codec/PacketType" ∧ Sta Z Z.heap "com/example/ferrybus/ferrybus/codec/PacketType" "UNSUBSCRIBE" "Lcom/example/ferrybus/ferrybus/codec/PacketType;" (.ref (A 14)) ∧ Exa Z Z.heap (A 14) "com/example/ferrybus/ferrybus/codec/PacketType" ∧ Sta Z Z.heap "com/example/ferrybus/ferrybus/codec/PacketType" "BY_VALUE" "[Lcom/example/ferrybus/ferrybus/codec/PacketType;" (.ref (A 15)) ∧ (∃ k, Arv Z Z.heap (A 15) k (.object "com/example/ferrybus/ferrybus/codec/PacketType") (16 : Int32) [.null, (.ref (A 0)), (.ref (A 11)), (.ref (A 7)), (.ref (A 1)), (.ref (A 13)), (.ref (A 2)), (.ref (A 4)), (.ref (A 6)), (.ref (A 10)), (.ref (A 14)), (.ref (A 9)), (.ref (A 8)), (.ref (A 12)), (.ref (A 3)), (.ref (A 5))] .null) ∧ Fld Z Z.heap (A 0) "com/example/ferrybus/ferrybus/codec/PacketType" "value" "I" (.int (1 : Int32)) ∧ Fld Z Z.heap (A 0) "com/example/ferrybus/ferrybus/codec/PacketType" "flags" "I" (.int (0 : Int32)) ∧ Fld Z Z.heap (A 1) "com/example/ferrybus/ferrybus/codec/PacketType" "value" "I" (.int (4 : Int32)) ∧ Fld Z Z.heap (A 1) "com/example/ferrybus/ferrybus/codec/PacketType" "flags" "I" (.int (0 : Int32)) ∧ Fld Z Z.heap (A 2) "com/example/ferrybus/ferrybus/codec/PacketType" "value" "I" (.int (6 : Int32)) ∧ Fld Z Z.heap (A 2) "com/example/ferrybus/ferrybus/codec/PacketType" "flags" "I" (.int (2 : Int32)) ∧ Fld Z Z.heap (A 3) "com/example/ferrybus/ferrybus/codec/PacketType" "value" "I" (.int (14 : Int32)) ∧ Fld Z Z.heap (A 3) "com/example/ferrybus/ferrybus/codec/PacketType" "flags" "I" (.int (0 : Int32)) ∧ Fld Z Z.heap (A 4) "com/example/ferrybus/ferrybus/codec/PacketType" "value" "I" (.int (7 : Int32)) ∧ Fld Z Z.heap (A 4) "com/example/ferrybus/ferrybus/codec/PacketType" "flags" "I" (.int (0 : Int32)) ∧ Fld Z Z.heap (A 5) "com/example/ferrybus/ferrybus/codec/PacketType" "value" "I" (.int (15 : Int32)) ∧ Fld Z Z.heap (A 5) "com/example/ferrybus/ferrybus/codec/PacketType" "flags" "I" (.int (0 : Int32)) ∧ Fld Z Z.heap (A 6) "com/example/ferrybus/ferrybus/codec/PacketType" "value" "I" (.int (8 : Int32)) ∧ Fld Z Z.heap (A 6) "com/example/ferrybus/ferrybus/codec/PacketType" "flags" "I" (.int (2 : Int32)) ∧ Fld Z Z.heap (A 7) "com/example/ferrybus/ferrybus/codec/PacketType" "value" "I" (.int (3 : Int32)) ∧ Fld Z Z.heap (A 7) "com/example/ferrybus/ferrybus/codec/PacketType" "flags" "I" (.int (-1 : Int32)) ∧ Fld Z Z.heap (A 8) "com/example/ferrybus/ferrybus/codec/PacketType" "value" "I" (.int (12 : Int32)) ∧ Fld Z Z.heap (A 8) "com/example/ferrybus/ferrybus/codec/PacketType" "flags" "I" (.int (0 : Int32)) ∧ Fld Z Z.heap (A 9) "com/example/ferrybus/ferrybus/codec/PacketType" "value" "I" (.int (11 : Int32)) ∧ Fld Z Z.heap (A 9) "com/example/ferrybus/ferrybus/codec/PacketType" "flags" "I" (.int (0 : Int32)) ∧ Fld Z Z.heap (A 10) "com/example/ferrybus/ferrybus/codec/PacketType" "value" "I" (.int (9 : Int32)) ∧ Fld Z Z.heap (A 10) "com/example/ferrybus/ferrybus/codec/PacketType" "flags" "I" (.int (0 : Int32)) ∧ Fld Z Z.heap (A 11) "com/example/ferrybus/ferrybus/codec/PacketType" "value" "I" (.int (2 : Int32)) ∧ Fld Z Z.heap (A 11) "com/example/ferrybus/ferrybus/codec/PacketType" "flags" "I" (.int (0 : Int32)) ∧ Fld Z Z.heap (A 12) "com/example/ferrybus/ferrybus/codec/PacketType" "value" "I" (.int (13 : Int32)) ∧ Fld Z Z.heap (A 12) "com/example/ferrybus/ferrybus/codec/PacketType" "flags" "I" (.int (0 : Int32)) ∧ Fld Z Z.heap (A 13) "com/example/ferrybus/ferrybus/codec/PacketType" "value" "I" (.int (5 : Int32)) ∧ Fld Z Z.heap (A 13) "com/example/ferrybus/ferrybus/codec/PacketType" "flags" "I" (.int (0 : Int32)) ∧ Fld Z Z.heap (A 14) "com/example/ferrybus/ferrybus/codec/PacketType" "value" "I" (.int (10 : Int32)) ∧ Fld Z Z.heap (A 14) "com/example/ferrybus/ferrybus/codec/PacketType" "flags" "I" (.int (2 : Int32))
theorem own_c15 (x : Int32) : ((x &&& (2147483647 : Int32)) % (15 : Int32)) = (0 : Int32) ∨ ((x &&& (2147483647 : Int32)) % (15 : Int32)) = (1 : Int32) ∨ ((x &&& (2147483647 : Int32)) % (15 : Int32)) = (2 : Int32) ∨ ((x &&& (2147483647 : Int32)) % (15 : Int32)) = (3 : Int32) ∨ ((x &&& (2147483647 : Int32)) % (15 : Int32)) = (4 : Int32) ∨ ((x &&& (2147483647 : Int32)) % (15 : Int32)) = (5 : Int32) ∨ ((x &&& (2147483647 : Int32)) % (15 : Int32)) = (6 : Int32) ∨ ((x &&& (2147483647 : Int32)) % (15 : Int32)) = (7 : Int32) ∨ ((x &&& (2147483647 : Int32)) % (15 : Int32)) = (8 : Int32) ∨ ((x &&& (2147483647 : Int32)) % (15 : Int32)) = (9 : Int32) ∨ ((x &&& (2147483647 : Int32)) % (15 : Int32)) = (10 : Int32) ∨ ((x &&& (2147483647 : Int32)) % (15 : Int32)) = (11 : Int32) ∨ ((x &&& (2147483647 : Int32)) % (15 : Int32)) = (12 : Int32) ∨ ((x &&& (2147483647 : Int32)) % (15 : Int32)) = (13 : Int32) ∨ ((x &&& (2147483647 : Int32)) % (15 : Int32)) = (14 : Int32) := by
  have h := own_rem (n := (15 : Int32)) (own_msk x) (by decide)
  generalize ((x &&& (2147483647 : Int32)) % (15 : Int32)) = i at h ⊢
  have hn : ((15 : Int32)).toInt = 15 := by decide
  rw [hn] at h
  rcases (by omega : i.toInt = 0 ∨ i.toInt = 1 ∨ i.toInt = 2 ∨ i.toInt = 3 ∨ i.toInt = 4 ∨ i.toInt = 5 ∨ i.toInt = 6 ∨ i.toInt = 7 ∨ i.toInt = 8 ∨ i.toInt = 9 ∨ i.toInt = 10 ∨ i.toInt = 11 ∨ i.toInt = 12 ∨ i.toInt = 13 ∨ i.toInt = 14) with q | q | q | q | q | q | q | q | q | q | q | q | q | q | q
  · exact Or.inl (Int32.toInt_inj.mp (q.trans (by decide : (0 : Int) = ((0 : Int32)).toInt)))
  · exact Or.inr (Or.inl (Int32.toInt_inj.mp (q.trans (by decide : (1 : Int) = ((1 : Int32)).toInt))))
  · exact Or.inr (Or.inr (Or.inl (Int32.toInt_inj.mp (q.trans (by decide : (2 : Int) = ((2 : Int32)).toInt)))))
  · exact Or.inr (Or.inr (Or.inr (Or.inl (Int32.toInt_inj.mp (q.trans (by decide : (3 : Int) = ((3 : Int32)).toInt))))))
  · exact Or.inr (Or.inr (Or.inr (Or.inr (Or.inl (Int32.toInt_inj.mp (q.trans (by decide : (4 : Int) = ((4 : Int32)).toInt)))))))
  · exact Or.inr (Or.inr (Or.inr (Or.inr (Or.inr (Or.inl (Int32.toInt_inj.mp (q.trans (by decide : (5 : Int) = ((5 : Int32)).toInt))))))))
  · exact Or.inr (Or.inr (Or.inr (Or.inr (Or.inr (Or.inr (Or.inl (Int32.toInt_inj.mp (q.trans (by decide : (6 : Int) = ((6 : Int32)).toInt)))))))))
  · exact Or.inr (Or.inr (Or.inr (Or.inr (Or.inr (Or.inr (Or.inr (Or.inl (Int32.toInt_inj.mp (q.trans (by decide : (7 : Int) = ((7 : Int32)).toInt))))))))))
  · exact Or.inr (Or.inr (Or.inr (Or.inr (Or.inr (Or.inr (Or.inr (Or.inr (Or.inl (Int32.toInt_inj.mp (q.trans (by decide : (8 : Int) = ((8 : Int32)).toInt)))))))))))
  · exact Or.inr (Or.inr (Or.inr (Or.inr (Or.inr (Or.inr (Or.inr (Or.inr (Or.inr (Or.inl (Int32.toInt_inj.mp (q.trans (by decide : (9 : Int) = ((9 : Int32)).toInt))))))))))))
  · exact Or.inr (Or.inr (Or.inr (Or.inr (Or.inr (Or.inr (Or.inr (Or.inr (Or.inr (Or.inr (Or.inl (Int32.toInt_inj.mp (q.trans (by decide : (10 : Int) = ((10 : Int32)).toInt)))))))))))))
  · exact Or.inr (Or.inr (Or.inr (Or.inr (Or.inr (Or.inr (Or.inr (Or.inr (Or.inr (Or.inr (Or.inr (Or.inl (Int32.toInt_inj.mp (q.trans (by decide : (11 : Int) = ((11 : Int32)).toInt))))))))))))))
  · exact Or.inr (Or.inr (Or.inr (Or.inr (Or.inr (Or.inr (Or.inr (Or.inr (Or.inr (Or.inr (Or.inr (Or.inr (Or.inl (Int32.toInt_inj.mp (q.trans (by decide : (12 : Int) = ((12 : Int32)).toInt)))))))))))))))
  · exact Or.inr (Or.inr (Or.inr (Or.inr (Or.inr (Or.inr (Or.inr (Or.inr (Or.inr (Or.inr (Or.inr (Or.inr (Or.inr (Or.inl (Int32.toInt_inj.mp (q.trans (by decide : (13 : Int) = ((13 : Int32)).toInt))))))))))))))))
  · exact Or.inr (Or.inr (Or.inr (Or.inr (Or.inr (Or.inr (Or.inr (Or.inr (Or.inr (Or.inr (Or.inr (Or.inr (Or.inr (Or.inr ((Int32.toInt_inj.mp (q.trans (by decide : (14 : Int) = ((14 : Int32)).toInt)))))))))))))))))
theorem pn_0 : plainName "com/example/ferrybus/ferrybus/codec/PacketTypeFirstBytePinLaw" = true := by first | (simp [plainName, overriddenIn]; done) | decide +kernel
theorem ef_0 (m : MethodId) (x0 : Int32) : entryFrame m #[(.int x0)] maxLocals = mkF m 0 #[.val (.int x0), .unset, .unset, .unset, .unset] [] := by first | (simp [entryFrame, mkF, argsToLocals, Value.category, maxLocals]; done) | rfl
theorem pn_1 : plainName "com/example/ferrybus/ferrybus/codec/PacketType" = true := by first | (simp [plainName, overriddenIn]; done) | decide +kernel
theorem ef_1 (m : MethodId) (x0 : Addr) : entryFrame m #[(.ref x0)] 1 = mkF m 0 #[.val (.ref x0)] [] := by first | (simp [entryFrame, mkF, argsToLocals, Value.category]; done) | rfl
theorem d1_0 : decode prog_32_method_6_code 0 = .ok (.aload_n 0, 1) := by decide +kernel
theorem d1_1 : decode prog_32_method_6_code 1 = .ok (.getfield 68, 3) := by decide +kernel
theorem d1_4 : decode prog_32_method_6_code 4 = .ok (.iconst 4, 1) := by decide +kernel
theorem d1_5 : decode prog_32_method_6_code 5 = .ok (.ishl, 1) := by decide +kernel
theorem d1_6 : decode prog_32_method_6_code 6 = .ok (.aload_n 0, 1) := by decide +kernel
theorem d1_7 : decode prog_32_method_6_code 7 = .ok (.getfield 72, 3) := by decide +kernel
theorem d1_10 : decode prog_32_method_6_code 10 = .ok (.iconst (-1), 1) := by decide +kernel
theorem d1_11 : decode prog_32_method_6_code 11 = .ok (.if_icmp .ne 7, 3) := by decide +kernel
theorem d1_18 : decode prog_32_method_6_code 18 = .ok (.aload_n 0, 1) := by decide +kernel
theorem d1_19 : decode prog_32_method_6_code 19 = .ok (.getfield 72, 3) := by decide +kernel
theorem d1_22 : decode prog_32_method_6_code 22 = .ok (.ior, 1) := by decide +kernel
theorem d1_23 : decode prog_32_method_6_code 23 = .ok (.ireturn, 1) := by decide +kernel
theorem pd_0 : parseMethodDescriptor "()I" = some ⟨[], some .int⟩ := by decide +kernel
theorem ef_2 (m : MethodId) (x0 : Int32) : entryFrame m #[(.int x0)] 1 = mkF m 0 #[.val (.int x0)] [] := by first | (simp [entryFrame, mkF, argsToLocals, Value.category]; done) | rfl
theorem d2_0 : decode prog_32_method_4_code 0 = .ok (.getstatic 75, 3) := by decide +kernel
theorem d2_3 : decode prog_32_method_4_code 3 = .ok (.iload_n 0, 1) := by decide +kernel
theorem d2_4 : decode prog_32_method_4_code 4 = .ok (.iconst 4, 1) := by decide +kernel
theorem d2_5 : decode prog_32_method_4_code 5 = .ok (.iushr, 1) := by decide +kernel
theorem d2_6 : decode prog_32_method_4_code 6 = .ok (.aaload, 1) := by decide +kernel
theorem d2_7 : decode prog_32_method_4_code 7 = .ok (.areturn, 1) := by decide +kernel
theorem pd_1 : parseMethodDescriptor "(I)Lcom/example/ferrybus/ferrybus/codec/PacketType;" = some ⟨[.int], some (.object "com/example/ferrybus/ferrybus/codec/PacketType")⟩ := by decide +kernel
theorem ef_3 (m : MethodId) (x0 : Addr) (x1 : Int32) : entryFrame m #[(.ref x0), (.int x1)] 2 = mkF m 0 #[.val (.ref x0), .val (.int x1)] [] := by first | (simp [entryFrame, mkF, argsToLocals, Value.category]; done) | rfl
theorem d3_0 : decode prog_32_method_5_code 0 = .ok (.aload_n 0, 1) := by decide +kernel
theorem d3_1 : decode prog_32_method_5_code 1 = .ok (.getfield 72, 3) := by decide +kernel
theorem d3_4 : decode prog_32_method_5_code 4 = .ok (.iconst (-1), 1) := by decide +kernel
theorem d3_5 : decode prog_32_method_5_code 5 = .ok (.if_icmp .eq 11, 3) := by decide +kernel
theorem d3_8 : decode prog_32_method_5_code 8 = .ok (.aload_n 0, 1) := by decide +kernel
theorem d3_9 : decode prog_32_method_5_code 9 = .ok (.getfield 72, 3) := by decide +kernel
theorem d3_12 : decode prog_32_method_5_code 12 = .ok (.iload_n 1, 1) := by decide +kernel
theorem d3_13 : decode prog_32_method_5_code 13 = .ok (.if_icmp .ne 7, 3) := by decide +kernel
theorem d3_16 : decode prog_32_method_5_code 16 = .ok (.iconst 1, 1) := by decide +kernel
theorem d3_17 : decode prog_32_method_5_code 17 = .ok (.goto 4, 3) := by decide +kernel
theorem d3_21 : decode prog_32_method_5_code 21 = .ok (.ireturn, 1) := by decide +kernel
theorem pd_2 : parseMethodDescriptor "(I)Z" = some ⟨[.int], some .boolean⟩ := by decide +kernel
theorem d1_14 : decode prog_32_method_6_code 14 = .ok (.iconst 0, 1) := by decide +kernel
theorem d1_15 : decode prog_32_method_6_code 15 = .ok (.goto 7, 3) := by decide +kernel
set_option maxRecDepth 65536 in
set_option maxHeartbeats 40000000 in
theorem rm1_0 (l : Launch) (Z : State) (a0 : Array Value) (hw : ∀ d ∈ tables_1, d.before a0 Z = true) (ws : List Jvm.Cond)  (A : Nat → Addr) (hW : own_W Z A) (h0 : Heap) (x0 : Ext Z.heap h0)  :
    own_Met l Z (⟨"com/example/ferrybus/ferrybus/codec/PacketType", "firstByte", "()I"⟩ : MethodName) prog_32_method_6_code 1 (some .int) ws ({ frames := 0, cells := 0, slots := 0, locals := 0 } : Room) #[(.ref (A 0))] h0 (fun v_ h_ L_ => v_ = some (.int (16 : Int32)) ∧ Fr Z.heap.size L_ ∧ h_ = h0) := by
  refine own_body (plainFor_of_name pn_1) fun p e s m below meth c s₁ hx hby hml hown hnm hlk hrt hZ X0 e0 => ?_
  have N0 := Fr.nil Z.heap.size
  have hW' := hW
  obtain ⟨-, -, -, -, -, -, -, -, -, -, -, -, -, -, -, -, -, -, -, -, -, -, -, -, -, -, -, -, -, -, -, -, F_CONNECT_value, F_CONNECT_flags, -, -, -, -, -, -, -, -, -, -, -, -, -, -, -, -, -, -, -, -, -, -, -, -, -, -, -, -⟩ := hW'
  refine own_go (B := s₁.setTop (mkF m 0 #[.val (.ref (A 0))] [])) (fun t k => castTop (ef_1 m (A 0)) k) ?_
  refine own_go (B := s₁.setTop (mkF m 1 #[.val (.ref (A 0))] [(.ref (A 0))])) (fun _ k => XS.aloadN X0.here hx rfl (hb hby d1_0) rfl rfl k) ?_
  obtain ⟨T1, X1, e1, st1⟩ := getF X0 hx hZ hown (host := "") (Or.inl (hw _ (List.mem_of_getElem? (i := 9) rfl))) Via.refl e0 (F_CONNECT_value.ext x0) (g := (mkF m 1 #[.val (.ref (A 0))] [(.ref (A 0))])) rfl rfl (hb hby d1_1)
  refine own_go (B := T1.setTop (mkF m 4 #[.val (.ref (A 0))] [(.int (1 : Int32))])) st1 ?_
  refine own_go (B := T1.setTop (mkF m 5 #[.val (.ref (A 0))] [(.int (4 : Int32)), (.int (1 : Int32))])) (fun _ k => XT.iconstV X1.here hx rfl (4 : Int32) (hb hby d1_4) rfl k) ?_
  refine own_go (B := T1.setTop (mkF m 6 #[.val (.ref (A 0))] [(.int ((1 : Int32) <<< ((4 : Int32) &&& 31)))])) (fun _ k => XT.ishl X1.here hx rfl (hb hby d1_5) rfl k) ?_
  refine own_go (B := T1.setTop (mkF m 7 #[.val (.ref (A 0))] [(.ref (A 0)), (.int ((1 : Int32) <<< ((4 : Int32) &&& 31)))])) (fun _ k => XS.aloadN X1.here hx rfl (hb hby d1_6) rfl rfl k) ?_
  obtain ⟨T2, X2, e2, st2⟩ := getF X1 hx hZ hown (host := "") (Or.inl (hw _ (List.mem_of_getElem? (i := 11) rfl))) Via.refl e1 (F_CONNECT_flags.ext x0) (g := (mkF m 7 #[.val (.ref (A 0))] [(.ref (A 0)), (.int ((1 : Int32) <<< ((4 : Int32) &&& 31)))])) rfl rfl (hb hby d1_7)
  refine own_go (B := T2.setTop (mkF m 10 #[.val (.ref (A 0))] [(.int (0 : Int32)), (.int ((1 : Int32) <<< ((4 : Int32) &&& 31)))])) st2 ?_
  refine own_go (B := T2.setTop (mkF m 11 #[.val (.ref (A 0))] [(.int (-1 : Int32)), (.int (0 : Int32)), (.int ((1 : Int32) <<< ((4 : Int32) &&& 31)))])) (fun _ k => XT.iconstV X2.here hx rfl (-1 : Int32) (hb hby d1_10) rfl k) ?_
  refine own_go (B := T2.setTop (mkF m 18 #[.val (.ref (A 0))] [(.int ((1 : Int32) <<< ((4 : Int32) &&& 31)))])) (fun _ k => XS.icmpYes X2.here hx rfl (pc0 := 11) (pc' := 18) rfl (hb hby d1_11) rfl (by decide) (by decide) (by decide) k) ?_
  refine own_go (B := T2.setTop (mkF m 19 #[.val (.ref (A 0))] [(.ref (A 0)), (.int ((1 : Int32) <<< ((4 : Int32) &&& 31)))])) (fun _ k => XS.aloadN X2.here hx rfl (hb hby d1_18) rfl rfl k) ?_
  obtain ⟨T3, X3, e3, st3⟩ := getF X2 hx hZ hown (host := "") (Or.inl (hw _ (List.mem_of_getElem? (i := 11) rfl))) Via.refl e2 (F_CONNECT_flags.ext x0) (g := (mkF m 19 #[.val (.ref (A 0))] [(.ref (A 0)), (.int ((1 : Int32) <<< ((4 : Int32) &&& 31)))])) rfl rfl (hb hby d1_19)
  refine own_go (B := T3.setTop (mkF m 22 #[.val (.ref (A 0))] [(.int (0 : Int32)), (.int ((1 : Int32) <<< ((4 : Int32) &&& 31)))])) st3 ?_
  refine own_go (B := T3.setTop (mkF m 23 #[.val (.ref (A 0))] [(.int (((1 : Int32) <<< ((4 : Int32) &&& 31)) ||| (0 : Int32)))])) (fun _ k => XT.ior X3.here hx rfl (hb hby d1_22) rfl k) ?_
  exact own_ret X3 hx (t := .int) hrt rfl (Or.inl ⟨rfl, by simp, _, rfl⟩) (hb hby d1_23) hlk ⟨(congrArg (fun z => some (Value.int z)) (by decide +kernel : (((1 : Int32) <<< ((4 : Int32) &&& 31)) ||| (0 : Int32)) = (16 : Int32))), N0, e3⟩ (by decide) (by decide)
set_option maxRecDepth 65536 in
set_option maxHeartbeats 40000000 in
theorem rm2_0 (l : Launch) (Z : State) (a0 : Array Value) (hw : ∀ d ∈ tables_1, d.before a0 Z = true) (ws : List Jvm.Cond)  (A : Nat → Addr) (hW : own_W Z A) (h0 : Heap) (x0 : Ext Z.heap h0)  :
    own_Met l Z (⟨"com/example/ferrybus/ferrybus/codec/PacketType", "of", "(I)Lcom/example/ferrybus/ferrybus/codec/PacketType;"⟩ : MethodName) prog_32_method_4_code 1 (some (.object "com/example/ferrybus/ferrybus/codec/PacketType")) ws ({ frames := 0, cells := 0, slots := 0, locals := 0 } : Room) #[(.int (16 : Int32))] h0 (fun v_ h_ L_ => v_ = some (.ref (A 0)) ∧ Fr Z.heap.size L_ ∧ h_ = h0) := by
  refine own_body (plainFor_of_name pn_1) fun p e s m below meth c s₁ hx hby hml hown hnm hlk hrt hZ X0 e0 => ?_
  have N0 := Fr.nil Z.heap.size
  have hW' := hW
  obtain ⟨-, -, -, -, -, -, -, -, -, -, -, -, -, -, -, -, -, -, -, -, -, -, -, -, -, -, -, -, -, -, S_BY_VALUE, V_BY_VALUE, -, -, -, -, -, -, -, -, -, -, -, -, -, -, -, -, -, -, -, -, -, -, -, -, -, -, -, -, -, -⟩ := hW'
  refine own_go (B := s₁.setTop (mkF m 0 #[.val (.int (16 : Int32))] [])) (fun t k => castTop (ef_2 m (16 : Int32)) k) ?_
  obtain ⟨T1, X1, e1, st1⟩ := getS2 X0 hx hZ hown (host := "") (Or.inl (hw _ (List.mem_of_getElem? (i := 16) rfl))) Via.refl e0 (S_BY_VALUE.ext x0) (g := (mkF m 0 #[.val (.int (16 : Int32))] [])) rfl (hb hby d2_0)
  refine own_go (B := T1.setTop (mkF m 3 #[.val (.int (16 : Int32))] [(.ref (A 15))])) st1 ?_
  refine own_go (B := T1.setTop (mkF m 4 #[.val (.int (16 : Int32))] [(.int (16 : Int32)), (.ref (A 15))])) (fun _ k => XS.iloadN X1.here hx rfl (hb hby d2_3) rfl k) ?_
  refine own_go (B := T1.setTop (mkF m 5 #[.val (.int (16 : Int32))] [(.int (4 : Int32)), (.int (16 : Int32)), (.ref (A 15))])) (fun _ k => XT.iconstV X1.here hx rfl (4 : Int32) (hb hby d2_4) rfl k) ?_
  refine own_go (B := T1.setTop (mkF m 6 #[.val (.int (16 : Int32))] [(.int (((16 : Int32).toUInt32 >>> ((4 : Int32) &&& 31).toUInt32).toInt32)), (.ref (A 15))])) (fun _ k => XT.iushr X1.here hx rfl (hb hby d2_5) rfl k) ?_
  obtain ⟨k3, V3⟩ := id V_BY_VALUE
  obtain ⟨cl2, Ar2, q2a, q2b, q2c, q2d, q2e⟩ := id (V3.ext x0)
  have i2 := inb_of (j := (((16 : Int32).toUInt32 >>> ((4 : Int32) &&& 31).toUInt32).toInt32)) q2b ⟨by decide +kernel, by decide +kernel⟩
  refine own_go (B := T1.setTop (mkF m 7 #[.val (.int (16 : Int32))] [(.ref (A 0))])) (fun _ k => X1.aaload hx (j := (((16 : Int32).toUInt32 >>> ((4 : Int32) &&& 31).toUInt32).toInt32)) (v := (.ref (A 0))) (by rw [e1]; exact Ar2.1) (State.isArrayOf_alike hZ.alike Ar2.2.1) rfl Ar2.2.2 i2 (Has.at q2d i2 rfl) (g := (mkF m 6 #[.val (.int (16 : Int32))] [(.int (((16 : Int32).toUInt32 >>> ((4 : Int32) &&& 31).toUInt32).toInt32)), (.ref (A 15))])) rfl rfl (hb hby d2_6) _ k) ?_
  exact own_ret X1 hx (t := (.object "com/example/ferrybus/ferrybus/codec/PacketType")) hrt rfl (Or.inr (Or.inr (Or.inr (Or.inr ⟨rfl, rfl, rfl⟩)))) (hb hby d2_7) hlk ⟨rfl, N0, e1⟩ (by decide) (by decide)
set_option maxRecDepth 65536 in
set_option maxHeartbeats 40000000 in
theorem rm3_0 (l : Launch) (Z : State) (a0 : Array Value) (hw : ∀ d ∈ tables_1, d.before a0 Z = true) (ws : List Jvm.Cond)  (A : Nat → Addr) (hW : own_W Z A) (h0 : Heap) (x0 : Ext Z.heap h0)  :
    own_Met l Z (⟨"com/example/ferrybus/ferrybus/codec/PacketType", "allows", "(I)Z"⟩ : MethodName) prog_32_method_5_code 2 (some .boolean) ws ({ frames := 0, cells := 0, slots := 0, locals := 0 } : Room) #[(.ref (A 0)), (.int ((16 : Int32) &&& (15 : Int32)))] h0 (fun v_ h_ L_ => v_ = some (.int (1 : Int32)) ∧ Fr Z.heap.size L_ ∧ h_ = h0) := by
  refine own_body (plainFor_of_name pn_1) fun p e s m below meth c s₁ hx hby hml hown hnm hlk hrt hZ X0 e0 => ?_
  have N0 := Fr.nil Z.heap.size
  have hW' := hW
  obtain ⟨-, -, -, -, -, -, -, -, -, -, -, -, -, -, -, -, -, -, -, -, -, -, -, -, -, -, -, -, -, -, -, -, -, F_CONNECT_flags, -, -, -, -, -, -, -, -, -, -, -, -, -, -, -, -, -, -, -, -, -, -, -, -, -, -, -, -⟩ := hW'
  refine own_go (B := s₁.setTop (mkF m 0 #[.val (.ref (A 0)), .val (.int ((16 : Int32) &&& (15 : Int32)))] [])) (fun t k => castTop (ef_3 m (A 0) ((16 : Int32) &&& (15 : Int32))) k) ?_
  refine own_go (B := s₁.setTop (mkF m 1 #[.val (.ref (A 0)), .val (.int ((16 : Int32) &&& (15 : Int32)))] [(.ref (A 0))])) (fun _ k => XS.aloadN X0.here hx rfl (hb hby d3_0) rfl rfl k) ?_
  obtain ⟨T1, X1, e1, st1⟩ := getF X0 hx hZ hown (host := "") (Or.inl (hw _ (List.mem_of_getElem? (i := 11) rfl))) Via.refl e0 (F_CONNECT_flags.ext x0) (g := (mkF m 1 #[.val (.ref (A 0)), .val (.int ((16 : Int32) &&& (15 : Int32)))] [(.ref (A 0))])) rfl rfl (hb hby d3_1)
  refine own_go (B := T1.setTop (mkF m 4 #[.val (.ref (A 0)), .val (.int ((16 : Int32) &&& (15 : Int32)))] [(.int (0 : Int32))])) st1 ?_
  refine own_go (B := T1.setTop (mkF m 5 #[.val (.ref (A 0)), .val (.int ((16 : Int32) &&& (15 : Int32)))] [(.int (-1 : Int32)), (.int (0 : Int32))])) (fun _ k => XT.iconstV X1.here hx rfl (-1 : Int32) (hb hby d3_4) rfl k) ?_
  refine own_go (B := T1.setTop (mkF m 8 #[.val (.ref (A 0)), .val (.int ((16 : Int32) &&& (15 : Int32)))] [])) (fun _ k => XS.icmpNo X1.here hx rfl (hb hby d3_5) rfl (by decide) k) ?_
  refine own_go (B := T1.setTop (mkF m 9 #[.val (.ref (A 0)), .val (.int ((16 : Int32) &&& (15 : Int32)))] [(.ref (A 0))])) (fun _ k => XS.aloadN X1.here hx rfl (hb hby d3_8) rfl rfl k) ?_
  obtain ⟨T2, X2, e2, st2⟩ := getF X1 hx hZ hown (host := "") (Or.inl (hw _ (List.mem_of_getElem? (i := 11) rfl))) Via.refl e1 (F_CONNECT_flags.ext x0) (g := (mkF m 9 #[.val (.ref (A 0)), .val (.int ((16 : Int32) &&& (15 : Int32)))] [(.ref (A 0))])) rfl rfl (hb hby d3_9)
  refine own_go (B := T2.setTop (mkF m 12 #[.val (.ref (A 0)), .val (.int ((16 : Int32) &&& (15 : Int32)))] [(.int (0 : Int32))])) st2 ?_
  refine own_go (B := T2.setTop (mkF m 13 #[.val (.ref (A 0)), .val (.int ((16 : Int32) &&& (15 : Int32)))] [(.int ((16 : Int32) &&& (15 : Int32))), (.int (0 : Int32))])) (fun _ k => XS.iloadN X2.here hx rfl (hb hby d3_12) rfl k) ?_
  refine own_go (B := T2.setTop (mkF m 16 #[.val (.ref (A 0)), .val (.int ((16 : Int32) &&& (15 : Int32)))] [])) (fun _ k => XS.icmpNo X2.here hx rfl (hb hby d3_13) rfl (by decide +kernel) k) ?_
  refine own_go (B := T2.setTop (mkF m 17 #[.val (.ref (A 0)), .val (.int ((16 : Int32) &&& (15 : Int32)))] [(.int (1 : Int32))])) (fun _ k => XT.iconstV X2.here hx rfl (1 : Int32) (hb hby d3_16) rfl k) ?_
  refine own_go (B := T2.setTop (mkF m 21 #[.val (.ref (A 0)), .val (.int ((16 : Int32) &&& (15 : Int32)))] [(.int (1 : Int32))])) (fun _ k => XS.goto X2.here hx rfl (pc0 := 17) (pc' := 21) rfl (hb hby d3_17) (by decide) (by decide) k) ?_
  exact own_ret X2 hx (t := .boolean) hrt rfl (Or.inl ⟨rfl, by simp, _, rfl⟩) (hb hby d3_21) hlk ⟨rfl, N0, e2⟩ (by decide) (by decide)
set_option maxRecDepth 65536 in
set_option maxHeartbeats 40000000 in
theorem rm1_1 (l : Launch) (Z : State) (a0 : Array Value) (hw : ∀ d ∈ tables_1, d.before a0 Z = true) (ws : List Jvm.Cond)  (A : Nat → Addr) (hW : own_W Z A) (h0 : Heap) (x0 : Ext Z.heap h0)  :
    own_Met l Z (⟨"com/example/ferrybus/ferrybus/codec/PacketType", "firstByte", "()I"⟩ : MethodName) prog_32_method_6_code 1 (some .int) ws ({ frames := 0, cells := 0, slots := 0, locals := 0 } : Room) #[(.ref (A 11))] h0 (fun v_ h_ L_ => v_ = some (.int (32 : Int32)) ∧ Fr Z.heap.size L_ ∧ h_ = h0) := by
  refine own_body (plainFor_of_name pn_1) fun p e s m below meth c s₁ hx hby hml hown hnm hlk hrt hZ X0 e0 => ?_
  have N0 := Fr.nil Z.heap.size
  have hW' := hW
  obtain ⟨-, -, -, -, -, -, -, -, -, -, -, -, -, -, -, -, -, -, -, -, -, -, -, -, -, -, -, -, -, -, -, -, -, -, -, -, -, -, -, -, -, -, -, -, -, -, -, -, -, -, -, -, -, -, F_CONNACK_value, F_CONNACK_flags, -, -, -, -, -, -⟩ := hW'
  refine own_go (B := s₁.setTop (mkF m 0 #[.val (.ref (A 11))] [])) (fun t k => castTop (ef_1 m (A 11)) k) ?_
  refine own_go (B := s₁.setTop (mkF m 1 #[.val (.ref (A 11))] [(.ref (A 11))])) (fun _ k => XS.aloadN X0.here hx rfl (hb hby d1_0) rfl rfl k) ?_
  obtain ⟨T1, X1, e1, st1⟩ := getF X0 hx hZ hown (host := "") (Or.inl (hw _ (List.mem_of_getElem? (i := 9) rfl))) Via.refl e0 (F_CONNACK_value.ext x0) (g := (mkF m 1 #[.val (.ref (A 11))] [(.ref (A 11))])) rfl rfl (hb hby d1_1)
  refine own_go (B := T1.setTop (mkF m 4 #[.val (.ref (A 11))] [(.int (2 : Int32))])) st1 ?_
  refine own_go (B := T1.setTop (mkF m 5 #[.val (.ref (A 11))] [(.int (4 : Int32)), (.int (2 : Int32))])) (fun _ k => XT.iconstV X1.here hx rfl (4 : Int32) (hb hby d1_4) rfl k) ?_
  refine own_go (B := T1.setTop (mkF m 6 #[.val (.ref (A 11))] [(.int ((2 : Int32) <<< ((4 : Int32) &&& 31)))])) (fun _ k => XT.ishl X1.here hx rfl (hb hby d1_5) rfl k) ?_
  refine own_go (B := T1.setTop (mkF m 7 #[.val (.ref (A 11))] [(.ref (A 11)), (.int ((2 : Int32) <<< ((4 : Int32) &&& 31)))])) (fun _ k => XS.aloadN X1.here hx rfl (hb hby d1_6) rfl rfl k) ?_
  obtain ⟨T2, X2, e2, st2⟩ := getF X1 hx hZ hown (host := "") (Or.inl (hw _ (List.mem_of_getElem? (i := 11) rfl))) Via.refl e1 (F_CONNACK_flags.ext x0) (g := (mkF m 7 #[.val (.ref (A 11))] [(.ref (A 11)), (.int ((2 : Int32) <<< ((4 : Int32) &&& 31)))])) rfl rfl (hb hby d1_7)
  refine own_go (B := T2.setTop (mkF m 10 #[.val (.ref (A 11))] [(.int (0 : Int32)), (.int ((2 : Int32) <<< ((4 : Int32) &&& 31)))])) st2 ?_
  refine own_go (B := T2.setTop (mkF m 11 #[.val (.ref (A 11))] [(.int (-1 : Int32)), (.int (0 : Int32)), (.int ((2 : Int32) <<< ((4 : Int32) &&& 31)))])) (fun _ k => XT.iconstV X2.here hx rfl (-1 : Int32) (hb hby d1_10) rfl k) ?_
  refine own_go (B := T2.setTop (mkF m 18 #[.val (.ref (A 11))] [(.int ((2 : Int32) <<< ((4 : Int32) &&& 31)))])) (fun _ k => XS.icmpYes X2.here hx rfl (pc0 := 11) (pc' := 18) rfl (hb hby d1_11) rfl (by decide) (by decide) (by decide) k) ?_
  refine own_go (B := T2.setTop (mkF m 19 #[.val (.ref (A 11))] [(.ref (A 11)), (.int ((2 : Int32) <<< ((4 : Int32) &&& 31)))])) (fun _ k => XS.aloadN X2.here hx rfl (hb hby d1_18) rfl rfl k) ?_
  obtain ⟨T3, X3, e3, st3⟩ := getF X2 hx hZ hown (host := "") (Or.inl (hw _ (List.mem_of_getElem? (i := 11) rfl))) Via.refl e2 (F_CONNACK_flags.ext x0) (g := (mkF m 19 #[.val (.ref (A 11))] [(.ref (A 11)), (.int ((2 : Int32) <<< ((4 : Int32) &&& 31)))])) rfl rfl (hb hby d1_19)
  refine own_go (B := T3.setTop (mkF m 22 #[.val (.ref (A 11))] [(.int (0 : Int32)), (.int ((2 : Int32) <<< ((4 : Int32) &&& 31)))])) st3 ?_
  refine own_go (B := T3.setTop (mkF m 23 #[.val (.ref (A 11))] [(.int (((2 : Int32) <<< ((4 : Int32) &&& 31)) ||| (0 : Int32)))])) (fun _ k => XT.ior X3.here hx rfl (hb hby d1_22) rfl k) ?_
  exact own_ret X3 hx (t := .int) hrt rfl (Or.inl ⟨rfl, by simp, _, rfl⟩) (hb hby d1_23) hlk ⟨(congrArg (fun z => some (Value.int z)) (by decide +kernel : (((2 : Int32) <<< ((4 : Int32) &&& 31)) ||| (0 : Int32)) = (32 : Int32))), N0, e3⟩ (by decide) (by decide)
set_option maxRecDepth 65536 in
set_option maxHeartbeats 40000000 in
theorem rm2_1 (l : Launch) (Z : State) (a0 : Array Value) (hw : ∀ d ∈ tables_1, d.before a0 Z = true) (ws : List Jvm.Cond)  (A : Nat → Addr) (hW : own_W Z A) (h0 : Heap) (x0 : Ext Z.heap h0)  :
    own_Met l Z (⟨"com/example/ferrybus/ferrybus/codec/PacketType", "of", "(I)Lcom/example/ferrybus/ferrybus/codec/PacketType;"⟩ : MethodName) prog_32_method_4_code 1 (some (.object "com/example/ferrybus/ferrybus/codec/PacketType")) ws ({ frames := 0, cells := 0, slots := 0, locals := 0 } : Room) #[(.int (32 : Int32))] h0 (fun v_ h_ L_ => v_ = some (.ref (A 11)) ∧ Fr Z.heap.size L_ ∧ h_ = h0) := by
  refine own_body (plainFor_of_name pn_1) fun p e s m below meth c s₁ hx hby hml hown hnm hlk hrt hZ X0 e0 => ?_
  have N0 := Fr.nil Z.heap.size
  have hW' := hW
  obtain ⟨-, -, -, -, -, -, -, -, -, -, -, -, -, -, -, -, -, -, -, -, -, -, -, -, -, -, -, -, -, -, S_BY_VALUE, V_BY_VALUE, -, -, -, -, -, -, -, -, -, -, -, -, -, -, -, -, -, -, -, -, -, -, -, -, -, -, -, -, -, -⟩ := hW'
  refine own_go (B := s₁.setTop (mkF m 0 #[.val (.int (32 : Int32))] [])) (fun t k => castTop (ef_2 m (32 : Int32)) k) ?_
  obtain ⟨T1, X1, e1, st1⟩ := getS2 X0 hx hZ hown (host := "") (Or.inl (hw _ (List.mem_of_getElem? (i := 16) rfl))) Via.refl e0 (S_BY_VALUE.ext x0) (g := (mkF m 0 #[.val (.int (32 : Int32))] [])) rfl (hb hby d2_0)
  refine own_go (B := T1.setTop (mkF m 3 #[.val (.int (32 : Int32))] [(.ref (A 15))])) st1 ?_
  refine own_go (B := T1.setTop (mkF m 4 #[.val (.int (32 : Int32))] [(.int (32 : Int32)), (.ref (A 15))])) (fun _ k => XS.iloadN X1.here hx rfl (hb hby d2_3) rfl k) ?_
  refine own_go (B := T1.setTop (mkF m 5 #[.val (.int (32 : Int32))] [(.int (4 : Int32)), (.int (32 : Int32)), (.ref (A 15))])) (fun _ k => XT.iconstV X1.here hx rfl (4 : Int32) (hb hby d2_4) rfl k) ?_
  refine own_go (B := T1.setTop (mkF m 6 #[.val (.int (32 : Int32))] [(.int (((32 : Int32).toUInt32 >>> ((4 : Int32) &&& 31).toUInt32).toInt32)), (.ref (A 15))])) (fun _ k => XT.iushr X1.here hx rfl (hb hby d2_5) rfl k) ?_
  obtain ⟨k3, V3⟩ := id V_BY_VALUE
  obtain ⟨cl2, Ar2, q2a, q2b, q2c, q2d, q2e⟩ := id (V3.ext x0)
  have i2 := inb_of (j := (((32 : Int32).toUInt32 >>> ((4 : Int32) &&& 31).toUInt32).toInt32)) q2b ⟨by decide +kernel, by decide +kernel⟩
  refine own_go (B := T1.setTop (mkF m 7 #[.val (.int (32 : Int32))] [(.ref (A 11))])) (fun _ k => X1.aaload hx (j := (((32 : Int32).toUInt32 >>> ((4 : Int32) &&& 31).toUInt32).toInt32)) (v := (.ref (A 11))) (by rw [e1]; exact Ar2.1) (State.isArrayOf_alike hZ.alike Ar2.2.1) rfl Ar2.2.2 i2 (Has.at q2d i2 rfl) (g := (mkF m 6 #[.val (.int (32 : Int32))] [(.int (((32 : Int32).toUInt32 >>> ((4 : Int32) &&& 31).toUInt32).toInt32)), (.ref (A 15))])) rfl rfl (hb hby d2_6) _ k) ?_
  exact own_ret X1 hx (t := (.object "com/example/ferrybus/ferrybus/codec/PacketType")) hrt rfl (Or.inr (Or.inr (Or.inr (Or.inr ⟨rfl, rfl, rfl⟩)))) (hb hby d2_7) hlk ⟨rfl, N0, e1⟩ (by decide) (by decide)
set_option maxRecDepth 65536 in
set_option maxHeartbeats 40000000 in
theorem rm3_1 (l : Launch) (Z : State) (a0 : Array Value) (hw : ∀ d ∈ tables_1, d.before a0 Z = true) (ws : List Jvm.Cond)  (A : Nat → Addr) (hW : own_W Z A) (h0 : Heap) (x0 : Ext Z.heap h0)  :
    own_Met l Z (⟨"com/example/ferrybus/ferrybus/codec/PacketType", "allows", "(I)Z"⟩ : MethodName) prog_32_method_5_code 2 (some .boolean) ws ({ frames := 0, cells := 0, slots := 0, locals := 0 } : Room) #[(.ref (A 11)), (.int ((32 : Int32) &&& (15 : Int32)))] h0 (fun v_ h_ L_ => v_ = some (.int (1 : Int32)) ∧ Fr Z.heap.size L_ ∧ h_ = h0) := by
  refine own_body (plainFor_of_name pn_1) fun p e s m below meth c s₁ hx hby hml hown hnm hlk hrt hZ X0 e0 => ?_
  have N0 := Fr.nil Z.heap.size
  have hW' := hW
  obtain ⟨-, -, -, -, -, -, -, -, -, -, -, -, -, -, -, -, -, -, -, -, -, -, -, -, -, -, -, -, -, -, -, -, -, -, -, -, -, -, -, -, -, -, -, -, -, -, -, -, -, -, -, -, -, -, -, F_CONNACK_flags, -, -, -, -, -, -⟩ := hW'
  refine own_go (B := s₁.setTop (mkF m 0 #[.val (.ref (A 11)), .val (.int ((32 : Int32) &&& (15 : Int32)))] [])) (fun t k => castTop (ef_3 m (A 11) ((32 : Int32) &&& (15 : Int32))) k) ?_
  refine own_go (B := s₁.setTop (mkF m 1 #[.val (.ref (A 11)), .val (.int ((32 : Int32) &&& (15 : Int32)))] [(.ref (A 11))])) (fun _ k => XS.aloadN X0.here hx rfl (hb hby d3_0) rfl rfl k) ?_
  obtain ⟨T1, X1, e1, st1⟩ := getF X0 hx hZ hown (host := "") (Or.inl (hw _ (List.mem_of_getElem? (i := 11) rfl))) Via.refl e0 (F_CONNACK_flags.ext x0) (g := (mkF m 1 #[.val (.ref (A 11)), .val (.int ((32 : Int32) &&& (15 : Int32)))] [(.ref (A 11))])) rfl rfl (hb hby d3_1)
  refine own_go (B := T1.setTop (mkF m 4 #[.val (.ref (A 11)), .val (.int ((32 : Int32) &&& (15 : Int32)))] [(.int (0 : Int32))])) st1 ?_
  refine own_go (B := T1.setTop (mkF m 5 #[.val (.ref (A 11)), .val (.int ((32 : Int32) &&& (15 : Int32)))] [(.int (-1 : Int32)), (.int (0 : Int32))])) (fun _ k => XT.iconstV X1.here hx rfl (-1 : Int32) (hb hby d3_4) rfl k) ?_
  refine own_go (B := T1.setTop (mkF m 8 #[.val (.ref (A 11)), .val (.int ((32 : Int32) &&& (15 : Int32)))] [])) (fun _ k => XS.icmpNo X1.here hx rfl (hb hby d3_5) rfl (by decide) k) ?_
  refine own_go (B := T1.setTop (mkF m 9 #[.val (.ref (A 11)), .val (.int ((32 : Int32) &&& (15 : Int32)))] [(.ref (A 11))])) (fun _ k => XS.aloadN X1.here hx rfl (hb hby d3_8) rfl rfl k) ?_
  obtain ⟨T2, X2, e2, st2⟩ := getF X1 hx hZ hown (host := "") (Or.inl (hw _ (List.mem_of_getElem? (i := 11) rfl))) Via.refl e1 (F_CONNACK_flags.ext x0) (g := (mkF m 9 #[.val (.ref (A 11)), .val (.int ((32 : Int32) &&& (15 : Int32)))] [(.ref (A 11))])) rfl rfl (hb hby d3_9)
  refine own_go (B := T2.setTop (mkF m 12 #[.val (.ref (A 11)), .val (.int ((32 : Int32) &&& (15 : Int32)))] [(.int (0 : Int32))])) st2 ?_
  refine own_go (B := T2.setTop (mkF m 13 #[.val (.ref (A 11)), .val (.int ((32 : Int32) &&& (15 : Int32)))] [(.int ((32 : Int32) &&& (15 : Int32))), (.int (0 : Int32))])) (fun _ k => XS.iloadN X2.here hx rfl (hb hby d3_12) rfl k) ?_
  refine own_go (B := T2.setTop (mkF m 16 #[.val (.ref (A 11)), .val (.int ((32 : Int32) &&& (15 : Int32)))] [])) (fun _ k => XS.icmpNo X2.here hx rfl (hb hby d3_13) rfl (by decide +kernel) k) ?_
  refine own_go (B := T2.setTop (mkF m 17 #[.val (.ref (A 11)), .val (.int ((32 : Int32) &&& (15 : Int32)))] [(.int (1 : Int32))])) (fun _ k => XT.iconstV X2.here hx rfl (1 : Int32) (hb hby d3_16) rfl k) ?_
  refine own_go (B := T2.setTop (mkF m 21 #[.val (.ref (A 11)), .val (.int ((32 : Int32) &&& (15 : Int32)))] [(.int (1 : Int32))])) (fun _ k => XS.goto X2.here hx rfl (pc0 := 17) (pc' := 21) rfl (hb hby d3_17) (by decide) (by decide) k) ?_
  exact own_ret X2 hx (t := .boolean) hrt rfl (Or.inl ⟨rfl, by simp, _, rfl⟩) (hb hby d3_21) hlk ⟨rfl, N0, e2⟩ (by decide) (by decide)
set_option maxRecDepth 65536 in
set_option maxHeartbeats 40000000 in
theorem rm1_2 (l : Launch) (Z : State) (a0 : Array Value) (hw : ∀ d ∈ tables_1, d.before a0 Z = true) (ws : List Jvm.Cond)  (A : Nat → Addr) (hW : own_W Z A) (h0 : Heap) (x0 : Ext Z.heap h0)  :
    own_Met l Z (⟨"com/example/ferrybus/ferrybus/codec/PacketType", "firstByte", "()I"⟩ : MethodName) prog_32_method_6_code 1 (some .int) ws ({ frames := 0, cells := 0, slots := 0, locals := 0 } : Room) #[(.ref (A 7))] h0 (fun v_ h_ L_ => v_ = some (.int (48 : Int32)) ∧ Fr Z.heap.size L_ ∧ h_ = h0) := by
  refine own_body (plainFor_of_name pn_1) fun p e s m below meth c s₁ hx hby hml hown hnm hlk hrt hZ X0 e0 => ?_
  have N0 := Fr.nil Z.heap.size
  have hW' := hW
  obtain ⟨-, -, -, -, -, -, -, -, -, -, -, -, -, -, -, -, -, -, -, -, -, -, -, -, -, -, -, -, -, -, -, -, -, -, -, -, -, -, -, -, -, -, -, -, -, -, F_PUBLISH_value, F_PUBLISH_flags, -, -, -, -, -, -, -, -, -, -, -, -, -, -⟩ := hW'
  refine own_go (B := s₁.setTop (mkF m 0 #[.val (.ref (A 7))] [])) (fun t k => castTop (ef_1 m (A 7)) k) ?_
  refine own_go (B := s₁.setTop (mkF m 1 #[.val (.ref (A 7))] [(.ref (A 7))])) (fun _ k => XS.aloadN X0.here hx rfl (hb hby d1_0) rfl rfl k) ?_
  obtain ⟨T1, X1, e1, st1⟩ := getF X0 hx hZ hown (host := "") (Or.inl (hw _ (List.mem_of_getElem? (i := 9) rfl))) Via.refl e0 (F_PUBLISH_value.ext x0) (g := (mkF m 1 #[.val (.ref (A 7))] [(.ref (A 7))])) rfl rfl (hb hby d1_1)
  refine own_go (B := T1.setTop (mkF m 4 #[.val (.ref (A 7))] [(.int (3 : Int32))])) st1 ?_
  refine own_go (B := T1.setTop (mkF m 5 #[.val (.ref (A 7))] [(.int (4 : Int32)), (.int (3 : Int32))])) (fun _ k => XT.iconstV X1.here hx rfl (4 : Int32) (hb hby d1_4) rfl k) ?_
  refine own_go (B := T1.setTop (mkF m 6 #[.val (.ref (A 7))] [(.int ((3 : Int32) <<< ((4 : Int32) &&& 31)))])) (fun _ k => XT.ishl X1.here hx rfl (hb hby d1_5) rfl k) ?_
  refine own_go (B := T1.setTop (mkF m 7 #[.val (.ref (A 7))] [(.ref (A 7)), (.int ((3 : Int32) <<< ((4 : Int32) &&& 31)))])) (fun _ k => XS.aloadN X1.here hx rfl (hb hby d1_6) rfl rfl k) ?_
  obtain ⟨T2, X2, e2, st2⟩ := getF X1 hx hZ hown (host := "") (Or.inl (hw _ (List.mem_of_getElem? (i := 11) rfl))) Via.refl e1 (F_PUBLISH_flags.ext x0) (g := (mkF m 7 #[.val (.ref (A 7))] [(.ref (A 7)), (.int ((3 : Int32) <<< ((4 : Int32) &&& 31)))])) rfl rfl (hb hby d1_7)
  refine own_go (B := T2.setTop (mkF m 10 #[.val (.ref (A 7))] [(.int (-1 : Int32)), (.int ((3 : Int32) <<< ((4 : Int32) &&& 31)))])) st2 ?_
  refine own_go (B := T2.setTop (mkF m 11 #[.val (.ref (A 7))] [(.int (-1 : Int32)), (.int (-1 : Int32)), (.int ((3 : Int32) <<< ((4 : Int32) &&& 31)))])) (fun _ k => XT.iconstV X2.here hx rfl (-1 : Int32) (hb hby d1_10) rfl k) ?_
  refine own_go (B := T2.setTop (mkF m 14 #[.val (.ref (A 7))] [(.int ((3 : Int32) <<< ((4 : Int32) &&& 31)))])) (fun _ k => XS.icmpNo X2.here hx rfl (hb hby d1_11) rfl (by decide) k) ?_
  refine own_go (B := T2.setTop (mkF m 15 #[.val (.ref (A 7))] [(.int (0 : Int32)), (.int ((3 : Int32) <<< ((4 : Int32) &&& 31)))])) (fun _ k => XT.iconstV X2.here hx rfl (0 : Int32) (hb hby d1_14) rfl k) ?_
  refine own_go (B := T2.setTop (mkF m 22 #[.val (.ref (A 7))] [(.int (0 : Int32)), (.int ((3 : Int32) <<< ((4 : Int32) &&& 31)))])) (fun _ k => XS.goto X2.here hx rfl (pc0 := 15) (pc' := 22) rfl (hb hby d1_15) (by decide) (by decide) k) ?_
  refine own_go (B := T2.setTop (mkF m 23 #[.val (.ref (A 7))] [(.int (((3 : Int32) <<< ((4 : Int32) &&& 31)) ||| (0 : Int32)))])) (fun _ k => XT.ior X2.here hx rfl (hb hby d1_22) rfl k) ?_
  exact own_ret X2 hx (t := .int) hrt rfl (Or.inl ⟨rfl, by simp, _, rfl⟩) (hb hby d1_23) hlk ⟨(congrArg (fun z => some (Value.int z)) (by decide +kernel : (((3 : Int32) <<< ((4 : Int32) &&& 31)) ||| (0 : Int32)) = (48 : Int32))), N0, e2⟩ (by decide) (by decide)
set_option maxRecDepth 65536 in
set_option maxHeartbeats 40000000 in
theorem rm2_2 (l : Launch) (Z : State) (a0 : Array Value) (hw : ∀ d ∈ tables_1, d.before a0 Z = true) (ws : List Jvm.Cond)  (A : Nat → Addr) (hW : own_W Z A) (h0 : Heap) (x0 : Ext Z.heap h0)  :
    own_Met l Z (⟨"com/example/ferrybus/ferrybus/codec/PacketType", "of", "(I)Lcom/example/ferrybus/ferrybus/codec/PacketType;"⟩ : MethodName) prog_32_method_4_code 1 (some (.object "com/example/ferrybus/ferrybus/codec/PacketType")) ws ({ frames := 0, cells := 0, slots := 0, locals := 0 } : Room) #[(.int (48 : Int32))] h0 (fun v_ h_ L_ => v_ = some (.ref (A 7)) ∧ Fr Z.heap.size L_ ∧ h_ = h0) := by
  refine own_body (plainFor_of_name pn_1) fun p e s m below meth c s₁ hx hby hml hown hnm hlk hrt hZ X0 e0 => ?_
  have N0 := Fr.nil Z.heap.size
  have hW' := hW
  obtain ⟨-, -, -, -, -, -, -, -, -, -, -, -, -, -, -, -, -, -, -, -, -, -, -, -, -, -, -, -, -, -, S_BY_VALUE, V_BY_VALUE, -, -, -, -, -, -, -, -, -, -, -, -, -, -, -, -, -, -, -, -, -, -, -, -, -, -, -, -, -, -⟩ := hW'
  refine own_go (B := s₁.setTop (mkF m 0 #[.val (.int (48 : Int32))] [])) (fun t k => castTop (ef_2 m (48 : Int32)) k) ?_
  obtain ⟨T1, X1, e1, st1⟩ := getS2 X0 hx hZ hown (host := "") (Or.inl (hw _ (List.mem_of_getElem? (i := 16) rfl))) Via.refl e0 (S_BY_VALUE.ext x0) (g := (mkF m 0 #[.val (.int (48 : Int32))] [])) rfl (hb hby d2_0)
  refine own_go (B := T1.setTop (mkF m 3 #[.val (.int (48 : Int32))] [(.ref (A 15))])) st1 ?_
  refine own_go (B := T1.setTop (mkF m 4 #[.val (.int (48 : Int32))] [(.int (48 : Int32)), (.ref (A 15))])) (fun _ k => XS.iloadN X1.here hx rfl (hb hby d2_3) rfl k) ?_
  refine own_go (B := T1.setTop (mkF m 5 #[.val (.int (48 : Int32))] [(.int (4 : Int32)), (.int (48 : Int32)), (.ref (A 15))])) (fun _ k => XT.iconstV X1.here hx rfl (4 : Int32) (hb hby d2_4) rfl k) ?_
  refine own_go (B := T1.setTop (mkF m 6 #[.val (.int (48 : Int32))] [(.int (((48 : Int32).toUInt32 >>> ((4 : Int32) &&& 31).toUInt32).toInt32)), (.ref (A 15))])) (fun _ k => XT.iushr X1.here hx rfl (hb hby d2_5) rfl k) ?_
  obtain ⟨k3, V3⟩ := id V_BY_VALUE
  obtain ⟨cl2, Ar2, q2a, q2b, q2c, q2d, q2e⟩ := id (V3.ext x0)
  have i2 := inb_of (j := (((48 : Int32).toUInt32 >>> ((4 : Int32) &&& 31).toUInt32).toInt32)) q2b ⟨by decide +kernel, by decide +kernel⟩
  refine own_go (B := T1.setTop (mkF m 7 #[.val (.int (48 : Int32))] [(.ref (A 7))])) (fun _ k => X1.aaload hx (j := (((48 : Int32).toUInt32 >>> ((4 : Int32) &&& 31).toUInt32).toInt32)) (v := (.ref (A 7))) (by rw [e1]; exact Ar2.1) (State.isArrayOf_alike hZ.alike Ar2.2.1) rfl Ar2.2.2 i2 (Has.at q2d i2 rfl) (g := (mkF m 6 #[.val (.int (48 : Int32))] [(.int (((48 : Int32).toUInt32 >>> ((4 : Int32) &&& 31).toUInt32).toInt32)), (.ref (A 15))])) rfl rfl (hb hby d2_6) _ k) ?_
  exact own_ret X1 hx (t := (.object "com/example/ferrybus/ferrybus/codec/PacketType")) hrt rfl (Or.inr (Or.inr (Or.inr (Or.inr ⟨rfl, rfl, rfl⟩)))) (hb hby d2_7) hlk ⟨rfl, N0, e1⟩ (by decide) (by decide)
set_option maxRecDepth 65536 in
set_option maxHeartbeats 40000000 in
theorem rm3_2 (l : Launch) (Z : State) (a0 : Array Value) (hw : ∀ d ∈ tables_1, d.before a0 Z = true) (ws : List Jvm.Cond)  (A : Nat → Addr) (hW : own_W Z A) (h0 : Heap) (x0 : Ext Z.heap h0)  :
    own_Met l Z (⟨"com/example/ferrybus/ferrybus/codec/PacketType", "allows", "(I)Z"⟩ : MethodName) prog_32_method_5_code 2 (some .boolean) ws ({ frames := 0, cells := 0, slots := 0, locals := 0 } : Room) #[(.ref (A 7)), (.int ((48 : Int32) &&& (15 : Int32)))] h0 (fun v_ h_ L_ => v_ = some (.int (1 : Int32)) ∧ Fr Z.heap.size L_ ∧ h_ = h0) := by
  refine own_body (plainFor_of_name pn_1) fun p e s m below meth c s₁ hx hby hml hown hnm hlk hrt hZ X0 e0 => ?_
  have N0 := Fr.nil Z.heap.size
  have hW' := hW
  obtain ⟨-, -, -, -, -, -, -, -, -, -, -, -, -, -, -, -, -, -, -, -, -, -, -, -, -, -, -, -, -, -, -, -, -, -, -, -, -, -, -, -, -, -, -, -, -, -, -, F_PUBLISH_flags, -, -, -, -, -, -, -, -, -, -, -, -, -, -⟩ := hW'
  refine own_go (B := s₁.setTop (mkF m 0 #[.val (.ref (A 7)), .val (.int ((48 : Int32) &&& (15 : Int32)))] [])) (fun t k => castTop (ef_3 m (A 7) ((48 : Int32) &&& (15 : Int32))) k) ?_
  refine own_go (B := s₁.setTop (mkF m 1 #[.val (.ref (A 7)), .val (.int ((48 : Int32) &&& (15 : Int32)))] [(.ref (A 7))])) (fun _ k => XS.aloadN X0.here hx rfl (hb hby d3_0) rfl rfl k) ?_
  obtain ⟨T1, X1, e1, st1⟩ := getF X0 hx hZ hown (host := "") (Or.inl (hw _ (List.mem_of_getElem? (i := 11) rfl))) Via.refl e0 (F_PUBLISH_flags.ext x0) (g := (mkF m 1 #[.val (.ref (A 7)), .val (.int ((48 : Int32) &&& (15 : Int32)))] [(.ref (A 7))])) rfl rfl (hb hby d3_1)
  refine own_go (B := T1.setTop (mkF m 4 #[.val (.ref (A 7)), .val (.int ((48 : Int32) &&& (15 : Int32)))] [(.int (-1 : Int32))])) st1 ?_
  refine own_go (B := T1.setTop (mkF m 5 #[.val (.ref (A 7)), .val (.int ((48 : Int32) &&& (15 : Int32)))] [(.int (-1 : Int32)), (.int (-1 : Int32))])) (fun _ k => XT.iconstV X1.here hx rfl (-1 : Int32) (hb hby d3_4) rfl k) ?_
  refine own_go (B := T1.setTop (mkF m 16 #[.val (.ref (A 7)), .val (.int ((48 : Int32) &&& (15 : Int32)))] [])) (fun _ k => XS.icmpYes X1.here hx rfl (pc0 := 5) (pc' := 16) rfl (hb hby d3_5) rfl (by decide) (by decide) (by decide) k) ?_
  refine own_go (B := T1.setTop (mkF m 17 #[.val (.ref (A 7)), .val (.int ((48 : Int32) &&& (15 : Int32)))] [(.int (1 : Int32))])) (fun _ k => XT.iconstV X1.here hx rfl (1 : Int32) (hb hby d3_16) rfl k) ?_
  refine own_go (B := T1.setTop (mkF m 21 #[.val (.ref (A 7)), .val (.int ((48 : Int32) &&& (15 : Int32)))] [(.int (1 : Int32))])) (fun _ k => XS.goto X1.here hx rfl (pc0 := 17) (pc' := 21) rfl (hb hby d3_17) (by decide) (by decide) k) ?_
  exact own_ret X1 hx (t := .boolean) hrt rfl (Or.inl ⟨rfl, by simp, _, rfl⟩) (hb hby d3_21) hlk ⟨rfl, N0, e1⟩ (by decide) (by decide)
set_option maxRecDepth 65536 in
set_option maxHeartbeats 40000000 in
theorem rm1_3 (l : Launch) (Z : State) (a0 : Array Value) (hw : ∀ d ∈ tables_1, d.before a0 Z = true) (ws : List Jvm.Cond)  (A : Nat → Addr) (hW : own_W Z A) (h0 : Heap) (x0 : Ext Z.heap h0)  :
    own_Met l Z (⟨"com/example/ferrybus/ferrybus/codec/PacketType", "firstByte", "()I"⟩ : MethodName) prog_32_method_6_code 1 (some .int) ws ({ frames := 0, cells := 0, slots := 0, locals := 0 } : Room) #[(.ref (A 1))] h0 (fun v_ h_ L_ => v_ = some (.int (64 : Int32)) ∧ Fr Z.heap.size L_ ∧ h_ = h0) := by
  refine own_body (plainFor_of_name pn_1) fun p e s m below meth c s₁ hx hby hml hown hnm hlk hrt hZ X0 e0 => ?_
  have N0 := Fr.nil Z.heap.size
  have hW' := hW
  obtain ⟨-, -, -, -, -, -, -, -, -, -, -, -, -, -, -, -, -, -, -, -, -, -, -, -, -, -, -, -, -, -, -, -, -, -, F_PUBACK_value, F_PUBACK_flags, -, -, -, -, -, -, -, -, -, -, -, -, -, -, -, -, -, -, -, -, -, -, -, -, -, -⟩ := hW'
  refine own_go (B := s₁.setTop (mkF m 0 #[.val (.ref (A 1))] [])) (fun t k => castTop (ef_1 m (A 1)) k) ?_
  refine own_go (B := s₁.setTop (mkF m 1 #[.val (.ref (A 1))] [(.ref (A 1))])) (fun _ k => XS.aloadN X0.here hx rfl (hb hby d1_0) rfl rfl k) ?_
  obtain ⟨T1, X1, e1, st1⟩ := getF X0 hx hZ hown (host := "") (Or.inl (hw _ (List.mem_of_getElem? (i := 9) rfl))) Via.refl e0 (F_PUBACK_value.ext x0) (g := (mkF m 1 #[.val (.ref (A 1))] [(.ref (A 1))])) rfl rfl (hb hby d1_1)
  refine own_go (B := T1.setTop (mkF m 4 #[.val (.ref (A 1))] [(.int (4 : Int32))])) st1 ?_
  refine own_go (B := T1.setTop (mkF m 5 #[.val (.ref (A 1))] [(.int (4 : Int32)), (.int (4 : Int32))])) (fun _ k => XT.iconstV X1.here hx rfl (4 : Int32) (hb hby d1_4) rfl k) ?_
  refine own_go (B := T1.setTop (mkF m 6 #[.val (.ref (A 1))] [(.int ((4 : Int32) <<< ((4 : Int32) &&& 31)))])) (fun _ k => XT.ishl X1.here hx rfl (hb hby d1_5) rfl k) ?_
  refine own_go (B := T1.setTop (mkF m 7 #[.val (.ref (A 1))] [(.ref (A 1)), (.int ((4 : Int32) <<< ((4 : Int32) &&& 31)))])) (fun _ k => XS.aloadN X1.here hx rfl (hb hby d1_6) rfl rfl k) ?_
  obtain ⟨T2, X2, e2, st2⟩ := getF X1 hx hZ hown (host := "") (Or.inl (hw _ (List.mem_of_getElem? (i := 11) rfl))) Via.refl e1 (F_PUBACK_flags.ext x0) (g := (mkF m 7 #[.val (.ref (A 1))] [(.ref (A 1)), (.int ((4 : Int32) <<< ((4 : Int32) &&& 31)))])) rfl rfl (hb hby d1_7)
  refine own_go (B := T2.setTop (mkF m 10 #[.val (.ref (A 1))] [(.int (0 : Int32)), (.int ((4 : Int32) <<< ((4 : Int32) &&& 31)))])) st2 ?_
  refine own_go (B := T2.setTop (mkF m 11 #[.val (.ref (A 1))] [(.int (-1 : Int32)), (.int (0 : Int32)), (.int ((4 : Int32) <<< ((4 : Int32) &&& 31)))])) (fun _ k => XT.iconstV X2.here hx rfl (-1 : Int32) (hb hby d1_10) rfl k) ?_
  refine own_go (B := T2.setTop (mkF m 18 #[.val (.ref (A 1))] [(.int ((4 : Int32) <<< ((4 : Int32) &&& 31)))])) (fun _ k => XS.icmpYes X2.here hx rfl (pc0 := 11) (pc' := 18) rfl (hb hby d1_11) rfl (by decide) (by decide) (by decide) k) ?_
  refine own_go (B := T2.setTop (mkF m 19 #[.val (.ref (A 1))] [(.ref (A 1)), (.int ((4 : Int32) <<< ((4 : Int32) &&& 31)))])) (fun _ k => XS.aloadN X2.here hx rfl (hb hby d1_18) rfl rfl k) ?_
  obtain ⟨T3, X3, e3, st3⟩ := getF X2 hx hZ hown (host := "") (Or.inl (hw _ (List.mem_of_getElem? (i := 11) rfl))) Via.refl e2 (F_PUBACK_flags.ext x0) (g := (mkF m 19 #[.val (.ref (A 1))] [(.ref (A 1)), (.int ((4 : Int32) <<< ((4 : Int32) &&& 31)))])) rfl rfl (hb hby d1_19)
  refine own_go (B := T3.setTop (mkF m 22 #[.val (.ref (A 1))] [(.int (0 : Int32)), (.int ((4 : Int32) <<< ((4 : Int32) &&& 31)))])) st3 ?_
  refine own_go (B := T3.setTop (mkF m 23 #[.val (.ref (A 1))] [(.int (((4 : Int32) <<< ((4 : Int32) &&& 31)) ||| (0 : Int32)))])) (fun _ k => XT.ior X3.here hx rfl (hb hby d1_22) rfl k) ?_
  exact own_ret X3 hx (t := .int) hrt rfl (Or.inl ⟨rfl, by simp, _, rfl⟩) (hb hby d1_23) hlk ⟨(congrArg (fun z => some (Value.int z)) (by decide +kernel : (((4 : Int32) <<< ((4 : Int32) &&& 31)) ||| (0 : Int32)) = (64 : Int32))), N0, e3⟩ (by decide) (by decide)
set_option maxRecDepth 65536 in
set_option maxHeartbeats 40000000 in
theorem rm2_3 (l : Launch) (Z : State) (a0 : Array Value) (hw : ∀ d ∈ tables_1, d.before a0 Z = true) (ws : List Jvm.Cond)  (A : Nat → Addr) (hW : own_W Z A) (h0 : Heap) (x0 : Ext Z.heap h0)  :
    own_Met l Z (⟨"com/example/ferrybus/ferrybus/codec/PacketType", "of", "(I)Lcom/example/ferrybus/ferrybus/codec/PacketType;"⟩ : MethodName) prog_32_method_4_code 1 (some (.object "com/example/ferrybus/ferrybus/codec/PacketType")) ws ({ frames := 0, cells := 0, slots := 0, locals := 0 } : Room) #[(.int (64 : Int32))] h0 (fun v_ h_ L_ => v_ = some (.ref (A 1)) ∧ Fr Z.heap.size L_ ∧ h_ = h0) := by
  refine own_body (plainFor_of_name pn_1) fun p e s m below meth c s₁ hx hby hml hown hnm hlk hrt hZ X0 e0 => ?_
  have N0 := Fr.nil Z.heap.size
  have hW' := hW
  obtain ⟨-, -, -, -, -, -, -, -, -, -, -, -, -, -, -, -, -, -, -, -, -, -, -, -, -, -, -, -, -, -, S_BY_VALUE, V_BY_VALUE, -, -, -, -, -, -, -, -, -, -, -, -, -, -, -, -, -, -, -, -, -, -, -, -, -, -, -, -, -, -⟩ := hW'
  refine own_go (B := s₁.setTop (mkF m 0 #[.val (.int (64 : Int32))] [])) (fun t k => castTop (ef_2 m (64 : Int32)) k) ?_
  obtain ⟨T1, X1, e1, st1⟩ := getS2 X0 hx hZ hown (host := "") (Or.inl (hw _ (List.mem_of_getElem? (i := 16) rfl))) Via.refl e0 (S_BY_VALUE.ext x0) (g := (mkF m 0 #[.val (.int (64 : Int32))] [])) rfl (hb hby d2_0)
  refine own_go (B := T1.setTop (mkF m 3 #[.val (.int (64 : Int32))] [(.ref (A 15))])) st1 ?_
  refine own_go (B := T1.setTop (mkF m 4 #[.val (.int (64 : Int32))] [(.int (64 : Int32)), (.ref (A 15))])) (fun _ k => XS.iloadN X1.here hx rfl (hb hby d2_3) rfl k) ?_
  refine own_go (B := T1.setTop (mkF m 5 #[.val (.int (64 : Int32))] [(.int (4 : Int32)), (.int (64 : Int32)), (.ref (A 15))])) (fun _ k => XT.iconstV X1.here hx rfl (4 : Int32) (hb hby d2_4) rfl k) ?_
  refine own_go (B := T1.setTop (mkF m 6 #[.val (.int (64 : Int32))] [(.int (((64 : Int32).toUInt32 >>> ((4 : Int32) &&& 31).toUInt32).toInt32)), (.ref (A 15))])) (fun _ k => XT.iushr X1.here hx rfl (hb hby d2_5) rfl k) ?_
  obtain ⟨k3, V3⟩ := id V_BY_VALUE
  obtain ⟨cl2, Ar2, q2a, q2b, q2c, q2d, q2e⟩ := id (V3.ext x0)
  have i2 := inb_of (j := (((64 : Int32).toUInt32 >>> ((4 : Int32) &&& 31).toUInt32).toInt32)) q2b ⟨by decide +kernel, by decide +kernel⟩
  refine own_go (B := T1.setTop (mkF m 7 #[.val (.int (64 : Int32))] [(.ref (A 1))])) (fun _ k => X1.aaload hx (j := (((64 : Int32).toUInt32 >>> ((4 : Int32) &&& 31).toUInt32).toInt32)) (v := (.ref (A 1))) (by rw [e1]; exact Ar2.1) (State.isArrayOf_alike hZ.alike Ar2.2.1) rfl Ar2.2.2 i2 (Has.at q2d i2 rfl) (g := (mkF m 6 #[.val (.int (64 : Int32))] [(.int (((64 : Int32).toUInt32 >>> ((4 : Int32) &&& 31).toUInt32).toInt32)), (.ref (A 15))])) rfl rfl (hb hby d2_6) _ k) ?_
  exact own_ret X1 hx (t := (.object "com/example/ferrybus/ferrybus/codec/PacketType")) hrt rfl (Or.inr (Or.inr (Or.inr (Or.inr ⟨rfl, rfl, rfl⟩)))) (hb hby d2_7) hlk ⟨rfl, N0, e1⟩ (by decide) (by decide)
set_option maxRecDepth 65536 in
set_option maxHeartbeats 40000000 in
theorem rm3_3 (l : Launch) (Z : State) (a0 : Array Value) (hw : ∀ d ∈ tables_1, d.before a0 Z = true) (ws : List Jvm.Cond)  (A : Nat → Addr) (hW : own_W Z A) (h0 : Heap) (x0 : Ext Z.heap h0)  :
    own_Met l Z (⟨"com/example/ferrybus/ferrybus/codec/PacketType", "allows", "(I)Z"⟩ : MethodName) prog_32_method_5_code 2 (some .boolean) ws ({ frames := 0, cells := 0, slots := 0, locals := 0 } : Room) #[(.ref (A 1)), (.int ((64 : Int32) &&& (15 : Int32)))] h0 (fun v_ h_ L_ => v_ = some (.int (1 : Int32)) ∧ Fr Z.heap.size L_ ∧ h_ = h0) := by
  refine own_body (plainFor_of_name pn_1) fun p e s m below meth c s₁ hx hby hml hown hnm hlk hrt hZ X0 e0 => ?_
  have N0 := Fr.nil Z.heap.size
  have hW' := hW
  obtain ⟨-, -, -, -, -, -, -, -, -, -, -, -, -, -, -, -, -, -, -, -, -, -, -, -, -, -, -, -, -, -, -, -, -, -, -, F_PUBACK_flags, -, -, -, -, -, -, -, -, -, -, -, -, -, -, -, -, -, -, -, -, -, -, -, -, -, -⟩ := hW'
  refine own_go (B := s₁.setTop (mkF m 0 #[.val (.ref (A 1)), .val (.int ((64 : Int32) &&& (15 : Int32)))] [])) (fun t k => castTop (ef_3 m (A 1) ((64 : Int32) &&& (15 : Int32))) k) ?_
  refine own_go (B := s₁.setTop (mkF m 1 #[.val (.ref (A 1)), .val (.int ((64 : Int32) &&& (15 : Int32)))] [(.ref (A 1))])) (fun _ k => XS.aloadN X0.here hx rfl (hb hby d3_0) rfl rfl k) ?_
  obtain ⟨T1, X1, e1, st1⟩ := getF X0 hx hZ hown (host := "") (Or.inl (hw _ (List.mem_of_getElem? (i := 11) rfl))) Via.refl e0 (F_PUBACK_flags.ext x0) (g := (mkF m 1 #[.val (.ref (A 1)), .val (.int ((64 : Int32) &&& (15 : Int32)))] [(.ref (A 1))])) rfl rfl (hb hby d3_1)
  refine own_go (B := T1.setTop (mkF m 4 #[.val (.ref (A 1)), .val (.int ((64 : Int32) &&& (15 : Int32)))] [(.int (0 : Int32))])) st1 ?_
  refine own_go (B := T1.setTop (mkF m 5 #[.val (.ref (A 1)), .val (.int ((64 : Int32) &&& (15 : Int32)))] [(.int (-1 : Int32)), (.int (0 : Int32))])) (fun _ k => XT.iconstV X1.here hx rfl (-1 : Int32) (hb hby d3_4) rfl k) ?_
  refine own_go (B := T1.setTop (mkF m 8 #[.val (.ref (A 1)), .val (.int ((64 : Int32) &&& (15 : Int32)))] [])) (fun _ k => XS.icmpNo X1.here hx rfl (hb hby d3_5) rfl (by decide) k) ?_
  refine own_go (B := T1.setTop (mkF m 9 #[.val (.ref (A 1)), .val (.int ((64 : Int32) &&& (15 : Int32)))] [(.ref (A 1))])) (fun _ k => XS.aloadN X1.here hx rfl (hb hby d3_8) rfl rfl k) ?_
  obtain ⟨T2, X2, e2, st2⟩ := getF X1 hx hZ hown (host := "") (Or.inl (hw _ (List.mem_of_getElem? (i := 11) rfl))) Via.refl e1 (F_PUBACK_flags.ext x0) (g := (mkF m 9 #[.val (.ref (A 1)), .val (.int ((64 : Int32) &&& (15 : Int32)))] [(.ref (A 1))])) rfl rfl (hb hby d3_9)
  refine own_go (B := T2.setTop (mkF m 12 #[.val (.ref (A 1)), .val (.int ((64 : Int32) &&& (15 : Int32)))] [(.int (0 : Int32))])) st2 ?_
  refine own_go (B := T2.setTop (mkF m 13 #[.val (.ref (A 1)), .val (.int ((64 : Int32) &&& (15 : Int32)))] [(.int ((64 : Int32) &&& (15 : Int32))), (.int (0 : Int32))])) (fun _ k => XS.iloadN X2.here hx rfl (hb hby d3_12) rfl k) ?_
  refine own_go (B := T2.setTop (mkF m 16 #[.val (.ref (A 1)), .val (.int ((64 : Int32) &&& (15 : Int32)))] [])) (fun _ k => XS.icmpNo X2.here hx rfl (hb hby d3_13) rfl (by decide +kernel) k) ?_
  refine own_go (B := T2.setTop (mkF m 17 #[.val (.ref (A 1)), .val (.int ((64 : Int32) &&& (15 : Int32)))] [(.int (1 : Int32))])) (fun _ k => XT.iconstV X2.here hx rfl (1 : Int32) (hb hby d3_16) rfl k) ?_
  refine own_go (B := T2.setTop (mkF m 21 #[.val (.ref (A 1)), .val (.int ((64 : Int32) &&& (15 : Int32)))] [(.int (1 : Int32))])) (fun _ k => XS.goto X2.here hx rfl (pc0 := 17) (pc' := 21) rfl (hb hby d3_17) (by decide) (by decide) k) ?_
  exact own_ret X2 hx (t := .boolean) hrt rfl (Or.inl ⟨rfl, by simp, _, rfl⟩) (hb hby d3_21) hlk ⟨rfl, N0, e2⟩ (by decide) (by decide)
set_option maxRecDepth 65536 in
set_option maxHeartbeats 40000000 in
theorem rm1_4 (l : Launch) (Z : State) (a0 : Array Value) (hw : ∀ d ∈ tables_1, d.before a0 Z = true) (ws : List Jvm.Cond)  (A : Nat → Addr) (hW : own_W Z A) (h0 : Heap) (x0 : Ext Z.heap h0)  :
    own_Met l Z (⟨"com/example/ferrybus/ferrybus/codec/PacketType", "firstByte", "()I"⟩ : MethodName) prog_32_method_6_code 1 (some .int) ws ({ frames := 0, cells := 0, slots := 0, locals := 0 } : Room) #[(.ref (A 13))] h0 (fun v_ h_ L_ => v_ = some (.int (80 : Int32)) ∧ Fr Z.heap.size L_ ∧ h_ = h0) := by
  refine own_body (plainFor_of_name pn_1) fun p e s m below meth c s₁ hx hby hml hown hnm hlk hrt hZ X0 e0 => ?_
  have N0 := Fr.nil Z.heap.size
  have hW' := hW
  obtain ⟨-, -, -, -, -, -, -, -, -, -, -, -, -, -, -, -, -, -, -, -, -, -, -, -, -, -, -, -, -, -, -, -, -, -, -, -, -, -, -, -, -, -, -, -, -, -, -, -, -, -, -, -, -, -, -, -, -, -, F_PUBREC_value, F_PUBREC_flags, -, -⟩ := hW'
  refine own_go (B := s₁.setTop (mkF m 0 #[.val (.ref (A 13))] [])) (fun t k => castTop (ef_1 m (A 13)) k) ?_
  refine own_go (B := s₁.setTop (mkF m 1 #[.val (.ref (A 13))] [(.ref (A 13))])) (fun _ k => XS.aloadN X0.here hx rfl (hb hby d1_0) rfl rfl k) ?_
  obtain ⟨T1, X1, e1, st1⟩ := getF X0 hx hZ hown (host := "") (Or.inl (hw _ (List.mem_of_getElem? (i := 9) rfl))) Via.refl e0 (F_PUBREC_value.ext x0) (g := (mkF m 1 #[.val (.ref (A 13))] [(.ref (A 13))])) rfl rfl (hb hby d1_1)
  refine own_go (B := T1.setTop (mkF m 4 #[.val (.ref (A 13))] [(.int (5 : Int32))])) st1 ?_
  refine own_go (B := T1.setTop (mkF m 5 #[.val (.ref (A 13))] [(.int (4 : Int32)), (.int (5 : Int32))])) (fun _ k => XT.iconstV X1.here hx rfl (4 : Int32) (hb hby d1_4) rfl k) ?_
  refine own_go (B := T1.setTop (mkF m 6 #[.val (.ref (A 13))] [(.int ((5 : Int32) <<< ((4 : Int32) &&& 31)))])) (fun _ k => XT.ishl X1.here hx rfl (hb hby d1_5) rfl k) ?_
  refine own_go (B := T1.setTop (mkF m 7 #[.val (.ref (A 13))] [(.ref (A 13)), (.int ((5 : Int32) <<< ((4 : Int32) &&& 31)))])) (fun _ k => XS.aloadN X1.here hx rfl (hb hby d1_6) rfl rfl k) ?_
  obtain ⟨T2, X2, e2, st2⟩ := getF X1 hx hZ hown (host := "") (Or.inl (hw _ (List.mem_of_getElem? (i := 11) rfl))) Via.refl e1 (F_PUBREC_flags.ext x0) (g := (mkF m 7 #[.val (.ref (A 13))] [(.ref (A 13)), (.int ((5 : Int32) <<< ((4 : Int32) &&& 31)))])) rfl rfl (hb hby d1_7)
  refine own_go (B := T2.setTop (mkF m 10 #[.val (.ref (A 13))] [(.int (0 : Int32)), (.int ((5 : Int32) <<< ((4 : Int32) &&& 31)))])) st2 ?_
  refine own_go (B := T2.setTop (mkF m 11 #[.val (.ref (A 13))] [(.int (-1 : Int32)), (.int (0 : Int32)), (.int ((5 : Int32) <<< ((4 : Int32) &&& 31)))])) (fun _ k => XT.iconstV X2.here hx rfl (-1 : Int32) (hb hby d1_10) rfl k) ?_
  refine own_go (B := T2.setTop (mkF m 18 #[.val (.ref (A 13))] [(.int ((5 : Int32) <<< ((4 : Int32) &&& 31)))])) (fun _ k => XS.icmpYes X2.here hx rfl (pc0 := 11) (pc' := 18) rfl (hb hby d1_11) rfl (by decide) (by decide) (by decide) k) ?_
  refine own_go (B := T2.setTop (mkF m 19 #[.val (.ref (A 13))] [(.ref (A 13)), (.int ((5 : Int32) <<< ((4 : Int32) &&& 31)))])) (fun _ k => XS.aloadN X2.here hx rfl (hb hby d1_18) rfl rfl k) ?_
  obtain ⟨T3, X3, e3, st3⟩ := getF X2 hx hZ hown (host := "") (Or.inl (hw _ (List.mem_of_getElem? (i := 11) rfl))) Via.refl e2 (F_PUBREC_flags.ext x0) (g := (mkF m 19 #[.val (.ref (A 13))] [(.ref (A 13)), (.int ((5 : Int32) <<< ((4 : Int32) &&& 31)))])) rfl rfl (hb hby d1_19)
  refine own_go (B := T3.setTop (mkF m 22 #[.val (.ref (A 13))] [(.int (0 : Int32)), (.int ((5 : Int32) <<< ((4 : Int32) &&& 31)))])) st3 ?_
  refine own_go (B := T3.setTop (mkF m 23 #[.val (.ref (A 13))] [(.int (((5 : Int32) <<< ((4 : Int32) &&& 31)) ||| (0 : Int32)))])) (fun _ k => XT.ior X3.here hx rfl (hb hby d1_22) rfl k) ?_
  exact own_ret X3 hx (t := .int) hrt rfl (Or.inl ⟨rfl, by simp, _, rfl⟩) (hb hby d1_23) hlk ⟨(congrArg (fun z => some (Value.int z)) (by decide +kernel : (((5 : Int32) <<< ((4 : Int32) &&& 31)) ||| (0 : Int32)) = (80 : Int32))), N0, e3⟩ (by decide) (by decide)
set_option maxRecDepth 65536 in
set_option maxHeartbeats 40000000 in
theorem rm2_4 (l : Launch) (Z : State) (a0 : Array Value) (hw : ∀ d ∈ tables_1, d.before a0 Z = true) (ws : List Jvm.Cond)  (A : Nat → Addr) (hW : own_W Z A) (h0 : Heap) (x0 : Ext Z.heap h0)  :
    own_Met l Z (⟨"com/example/ferrybus/ferrybus/codec/PacketType", "of", "(I)Lcom/example/ferrybus/ferrybus/codec/PacketType;"⟩ : MethodName) prog_32_method_4_code 1 (some (.object "com/example/ferrybus/ferrybus/codec/PacketType")) ws ({ frames := 0, cells := 0, slots := 0, locals := 0 } : Room) #[(.int (80 : Int32))] h0 (fun v_ h_ L_ => v_ = some (.ref (A 13)) ∧ Fr Z.heap.size L_ ∧ h_ = h0) := by
  refine own_body (plainFor_of_name pn_1) fun p e s m below meth c s₁ hx hby hml hown hnm hlk hrt hZ X0 e0 => ?_
  have N0 := Fr.nil Z.heap.size
  have hW' := hW
  obtain ⟨-, -, -, -, -, -, -, -, -, -, -, -, -, -, -, -, -, -, -, -, -, -, -, -, -, -, -, -, -, -, S_BY_VALUE, V_BY_VALUE, -, -, -, -, -, -, -, -, -, -, -, -, -, -, -, -, -, -, -, -, -, -, -, -, -, -, -, -, -, -⟩ := hW'
  refine own_go (B := s₁.setTop (mkF m 0 #[.val (.int (80 : Int32))] [])) (fun t k => castTop (ef_2 m (80 : Int32)) k) ?_
  obtain ⟨T1, X1, e1, st1⟩ := getS2 X0 hx hZ hown (host := "") (Or.inl (hw _ (List.mem_of_getElem? (i := 16) rfl))) Via.refl e0 (S_BY_VALUE.ext x0) (g := (mkF m 0 #[.val (.int (80 : Int32))] [])) rfl (hb hby d2_0)
  refine own_go (B := T1.setTop (mkF m 3 #[.val (.int (80 : Int32))] [(.ref (A 15))])) st1 ?_
  refine own_go (B := T1.setTop (mkF m 4 #[.val (.int (80 : Int32))] [(.int (80 : Int32)), (.ref (A 15))])) (fun _ k => XS.iloadN X1.here hx rfl (hb hby d2_3) rfl k) ?_
  refine own_go (B := T1.setTop (mkF m 5 #[.val (.int (80 : Int32))] [(.int (4 : Int32)), (.int (80 : Int32)), (.ref (A 15))])) (fun _ k => XT.iconstV X1.here hx rfl (4 : Int32) (hb hby d2_4) rfl k) ?_
  refine own_go (B := T1.setTop (mkF m 6 #[.val (.int (80 : Int32))] [(.int (((80 : Int32).toUInt32 >>> ((4 : Int32) &&& 31).toUInt32).toInt32)), (.ref (A 15))])) (fun _ k => XT.iushr X1.here hx rfl (hb hby d2_5) rfl k) ?_
  obtain ⟨k3, V3⟩ := id V_BY_VALUE
  obtain ⟨cl2, Ar2, q2a, q2b, q2c, q2d, q2e⟩ := id (V3.ext x0)
  have i2 := inb_of (j := (((80 : Int32).toUInt32 >>> ((4 : Int32) &&& 31).toUInt32).toInt32)) q2b ⟨by decide +kernel, by decide +kernel⟩
  refine own_go (B := T1.setTop (mkF m 7 #[.val (.int (80 : Int32))] [(.ref (A 13))])) (fun _ k => X1.aaload hx (j := (((80 : Int32).toUInt32 >>> ((4 : Int32) &&& 31).toUInt32).toInt32)) (v := (.ref (A 13))) (by rw [e1]; exact Ar2.1) (State.isArrayOf_alike hZ.alike Ar2.2.1) rfl Ar2.2.2 i2 (Has.at q2d i2 rfl) (g := (mkF m 6 #[.val (.int (80 : Int32))] [(.int (((80 : Int32).toUInt32 >>> ((4 : Int32) &&& 31).toUInt32).toInt32)), (.ref (A 15))])) rfl rfl (hb hby d2_6) _ k) ?_
  exact own_ret X1 hx (t := (.object "com/example/ferrybus/ferrybus/codec/PacketType")) hrt rfl (Or.inr (Or.inr (Or.inr (Or.inr ⟨rfl, rfl, rfl⟩)))) (hb hby d2_7) hlk ⟨rfl, N0, e1⟩ (by decide) (by decide)
set_option maxRecDepth 65536 in
set_option maxHeartbeats 40000000 in
theorem rm3_4 (l : Launch) (Z : State) (a0 : Array Value) (hw : ∀ d ∈ tables_1, d.before a0 Z = true) (ws : List Jvm.Cond)  (A : Nat → Addr) (hW : own_W Z A) (h0 : Heap) (x0 : Ext Z.heap h0)  :
    own_Met l Z (⟨"com/example/ferrybus/ferrybus/codec/PacketType", "allows", "(I)Z"⟩ : MethodName) prog_32_method_5_code 2 (some .boolean) ws ({ frames := 0, cells := 0, slots := 0, locals := 0 } : Room) #[(.ref (A 13)), (.int ((80 : Int32) &&& (15 : Int32)))] h0 (fun v_ h_ L_ => v_ = some (.int (1 : Int32)) ∧ Fr Z.heap.size L_ ∧ h_ = h0) := by
  refine own_body (plainFor_of_name pn_1) fun p e s m below meth c s₁ hx hby hml hown hnm hlk hrt hZ X0 e0 => ?_
  have N0 := Fr.nil Z.heap.size
  have hW' := hW
  obtain ⟨-, -, -, -, -, -, -, -, -, -, -, -, -, -, -, -, -, -, -, -, -, -, -, -, -, -, -, -, -, -, -, -, -, -, -, -, -, -, -, -, -, -, -, -, -, -, -, -, -, -, -, -, -, -, -, -, -, -, -, F_PUBREC_flags, -, -⟩ := hW'
  refine own_go (B := s₁.setTop (mkF m 0 #[.val (.ref (A 13)), .val (.int ((80 : Int32) &&& (15 : Int32)))] [])) (fun t k => castTop (ef_3 m (A 13) ((80 : Int32) &&& (15 : Int32))) k) ?_
  refine own_go (B := s₁.setTop (mkF m 1 #[.val (.ref (A 13)), .val (.int ((80 : Int32) &&& (15 : Int32)))] [(.ref (A 13))])) (fun _ k => XS.aloadN X0.here hx rfl (hb hby d3_0) rfl rfl k) ?_
  obtain ⟨T1, X1, e1, st1⟩ := getF X0 hx hZ hown (host := "") (Or.inl (hw _ (List.mem_of_getElem? (i := 11) rfl))) Via.refl e0 (F_PUBREC_flags.ext x0) (g := (mkF m 1 #[.val (.ref (A 13)), .val (.int ((80 : Int32) &&& (15 : Int32)))] [(.ref (A 13))])) rfl rfl (hb hby d3_1)
  refine own_go (B := T1.setTop (mkF m 4 #[.val (.ref (A 13)), .val (.int ((80 : Int32) &&& (15 : Int32)))] [(.int (0 : Int32))])) st1 ?_
  refine own_go (B := T1.setTop (mkF m 5 #[.val (.ref (A 13)), .val (.int ((80 : Int32) &&& (15 : Int32)))] [(.int (-1 : Int32)), (.int (0 : Int32))])) (fun _ k => XT.iconstV X1.here hx rfl (-1 : Int32) (hb hby d3_4) rfl k) ?_
  refine own_go (B := T1.setTop (mkF m 8 #[.val (.ref (A 13)), .val (.int ((80 : Int32) &&& (15 : Int32)))] [])) (fun _ k => XS.icmpNo X1.here hx rfl (hb hby d3_5) rfl (by decide) k) ?_
  refine own_go (B := T1.setTop (mkF m 9 #[.val (.ref (A 13)), .val (.int ((80 : Int32) &&& (15 : Int32)))] [(.ref (A 13))])) (fun _ k => XS.aloadN X1.here hx rfl (hb hby d3_8) rfl rfl k) ?_
  obtain ⟨T2, X2, e2, st2⟩ := getF X1 hx hZ hown (host := "") (Or.inl (hw _ (List.mem_of_getElem? (i := 11) rfl))) Via.refl e1 (F_PUBREC_flags.ext x0) (g := (mkF m 9 #[.val (.ref (A 13)), .val (.int ((80 : Int32) &&& (15 : Int32)))] [(.ref (A 13))])) rfl rfl (hb hby d3_9)
  refine own_go (B := T2.setTop (mkF m 12 #[.val (.ref (A 13)), .val (.int ((80 : Int32) &&& (15 : Int32)))] [(.int (0 : Int32))])) st2 ?_
  refine own_go (B := T2.setTop (mkF m 13 #[.val (.ref (A 13)), .val (.int ((80 : Int32) &&& (15 : Int32)))] [(.int ((80 : Int32) &&& (15 : Int32))), (.int (0 : Int32))])) (fun _ k => XS.iloadN X2.here hx rfl (hb hby d3_12) rfl k) ?_
  refine own_go (B := T2.setTop (mkF m 16 #[.val (.ref (A 13)), .val (.int ((80 : Int32) &&& (15 : Int32)))] [])) (fun _ k => XS.icmpNo X2.here hx rfl (hb hby d3_13) rfl (by decide +kernel) k) ?_
  refine own_go (B := T2.setTop (mkF m 17 #[.val (.ref (A 13)), .val (.int ((80 : Int32) &&& (15 : Int32)))] [(.int (1 : Int32))])) (fun _ k => XT.iconstV X2.here hx rfl (1 : Int32) (hb hby d3_16) rfl k) ?_
  refine own_go (B := T2.setTop (mkF m 21 #[.val (.ref (A 13)), .val (.int ((80 : Int32) &&& (15 : Int32)))] [(.int (1 : Int32))])) (fun _ k => XS.goto X2.here hx rfl (pc0 := 17) (pc' := 21) rfl (hb hby d3_17) (by decide) (by decide) k) ?_
  exact own_ret X2 hx (t := .boolean) hrt rfl (Or.inl ⟨rfl, by simp, _, rfl⟩) (hb hby d3_21) hlk ⟨rfl, N0, e2⟩ (by decide) (by decide)
set_option maxRecDepth 65536 in
set_option maxHeartbeats 40000000 in
theorem rm1_5 (l : Launch) (Z : State) (a0 : Array Value) (hw : ∀ d ∈ tables_1, d.before a0 Z = true) (ws : List Jvm.Cond)  (A : Nat → Addr) (hW : own_W Z A) (h0 : Heap) (x0 : Ext Z.heap h0)  :
    own_Met l Z (⟨"com/example/ferrybus/ferrybus/codec/PacketType", "firstByte", "()I"⟩ : MethodName) prog_32_method_6_code 1 (some .int) ws ({ frames := 0, cells := 0, slots := 0, locals := 0 } : Room) #[(.ref (A 2))] h0 (fun v_ h_ L_ => v_ = some (.int (98 : Int32)) ∧ Fr Z.heap.size L_ ∧ h_ = h0) := by
  refine own_body (plainFor_of_name pn_1) fun p e s m below meth c s₁ hx hby hml hown hnm hlk hrt hZ X0 e0 => ?_
  have N0 := Fr.nil Z.heap.size
  have hW' := hW
  obtain ⟨-, -, -, -, -, -, -, -, -, -, -, -, -, -, -, -, -, -, -, -, -, -, -, -, -, -, -, -, -, -, -, -, -, -, -, -, F_PUBREL_value, F_PUBREL_flags, -, -, -, -, -, -, -, -, -, -, -, -, -, -, -, -, -, -, -, -, -, -, -, -⟩ := hW'
  refine own_go (B := s₁.setTop (mkF m 0 #[.val (.ref (A 2))] [])) (fun t k => castTop (ef_1 m (A 2)) k) ?_
  refine own_go (B := s₁.setTop (mkF m 1 #[.val (.ref (A 2))] [(.ref (A 2))])) (fun _ k => XS.aloadN X0.here hx rfl (hb hby d1_0) rfl rfl k) ?_
  obtain ⟨T1, X1, e1, st1⟩ := getF X0 hx hZ hown (host := "") (Or.inl (hw _ (List.mem_of_getElem? (i := 9) rfl))) Via.refl e0 (F_PUBREL_value.ext x0) (g := (mkF m 1 #[.val (.ref (A 2))] [(.ref (A 2))])) rfl rfl (hb hby d1_1)
  refine own_go (B := T1.setTop (mkF m 4 #[.val (.ref (A 2))] [(.int (6 : Int32))])) st1 ?_
  refine own_go (B := T1.setTop (mkF m 5 #[.val (.ref (A 2))] [(.int (4 : Int32)), (.int (6 : Int32))])) (fun _ k => XT.iconstV X1.here hx rfl (4 : Int32) (hb hby d1_4) rfl k) ?_
  refine own_go (B := T1.setTop (mkF m 6 #[.val (.ref (A 2))] [(.int ((6 : Int32) <<< ((4 : Int32) &&& 31)))])) (fun _ k => XT.ishl X1.here hx rfl (hb hby d1_5) rfl k) ?_
  refine own_go (B := T1.setTop (mkF m 7 #[.val (.ref (A 2))] [(.ref (A 2)), (.int ((6 : Int32) <<< ((4 : Int32) &&& 31)))])) (fun _ k => XS.aloadN X1.here hx rfl (hb hby d1_6) rfl rfl k) ?_
  obtain ⟨T2, X2, e2, st2⟩ := getF X1 hx hZ hown (host := "") (Or.inl (hw _ (List.mem_of_getElem? (i := 11) rfl))) Via.refl e1 (F_PUBREL_flags.ext x0) (g := (mkF m 7 #[.val (.ref (A 2))] [(.ref (A 2)), (.int ((6 : Int32) <<< ((4 : Int32) &&& 31)))])) rfl rfl (hb hby d1_7)
  refine own_go (B := T2.setTop (mkF m 10 #[.val (.ref (A 2))] [(.int (2 : Int32)), (.int ((6 : Int32) <<< ((4 : Int32) &&& 31)))])) st2 ?_
  refine own_go (B := T2.setTop (mkF m 11 #[.val (.ref (A 2))] [(.int (-1 : Int32)), (.int (2 : Int32)), (.int ((6 : Int32) <<< ((4 : Int32) &&& 31)))])) (fun _ k => XT.iconstV X2.here hx rfl (-1 : Int32) (hb hby d1_10) rfl k) ?_
  refine own_go (B := T2.setTop (mkF m 18 #[.val (.ref (A 2))] [(.int ((6 : Int32) <<< ((4 : Int32) &&& 31)))])) (fun _ k => XS.icmpYes X2.here hx rfl (pc0 := 11) (pc' := 18) rfl (hb hby d1_11) rfl (by decide) (by decide) (by decide) k) ?_
  refine own_go (B := T2.setTop (mkF m 19 #[.val (.ref (A 2))] [(.ref (A 2)), (.int ((6 : Int32) <<< ((4 : Int32) &&& 31)))])) (fun _ k => XS.aloadN X2.here hx rfl (hb hby d1_18) rfl rfl k) ?_
  obtain ⟨T3, X3, e3, st3⟩ := getF X2 hx hZ hown (host := "") (Or.inl (hw _ (List.mem_of_getElem? (i := 11) rfl))) Via.refl e2 (F_PUBREL_flags.ext x0) (g := (mkF m 19 #[.val (.ref (A 2))] [(.ref (A 2)), (.int ((6 : Int32) <<< ((4 : Int32) &&& 31)))])) rfl rfl (hb hby d1_19)
  refine own_go (B := T3.setTop (mkF m 22 #[.val (.ref (A 2))] [(.int (2 : Int32)), (.int ((6 : Int32) <<< ((4 : Int32) &&& 31)))])) st3 ?_
  refine own_go (B := T3.setTop (mkF m 23 #[.val (.ref (A 2))] [(.int (((6 : Int32) <<< ((4 : Int32) &&& 31)) ||| (2 : Int32)))])) (fun _ k => XT.ior X3.here hx rfl (hb hby d1_22) rfl k) ?_
  exact own_ret X3 hx (t := .int) hrt rfl (Or.inl ⟨rfl, by simp, _, rfl⟩) (hb hby d1_23) hlk ⟨(congrArg (fun z => some (Value.int z)) (by decide +kernel : (((6 : Int32) <<< ((4 : Int32) &&& 31)) ||| (2 : Int32)) = (98 : Int32))), N0, e3⟩ (by decide) (by decide)
set_option maxRecDepth 65536 in
set_option maxHeartbeats 40000000 in
theorem rm2_5 (l : Launch) (Z : State) (a0 : Array Value) (hw : ∀ d ∈ tables_1, d.before a0 Z = true) (ws : List Jvm.Cond)  (A : Nat → Addr) (hW : own_W Z A) (h0 : Heap) (x0 : Ext Z.heap h0)  :
    own_Met l Z (⟨"com/example/ferrybus/ferrybus/codec/PacketType", "of", "(I)Lcom/example/ferrybus/ferrybus/codec/PacketType;"⟩ : MethodName) prog_32_method_4_code 1 (some (.object "com/example/ferrybus/ferrybus/codec/PacketType")) ws ({ frames := 0, cells := 0, slots := 0, locals := 0 } : Room) #[(.int (98 : Int32))] h0 (fun v_ h_ L_ => v_ = some (.ref (A 2)) ∧ Fr Z.heap.size L_ ∧ h_ = h0) := by
  refine own_body (plainFor_of_name pn_1) fun p e s m below meth c s₁ hx hby hml hown hnm hlk hrt hZ X0 e0 => ?_
  have N0 := Fr.nil Z.heap.size
  have hW' := hW
  obtain ⟨-, -, -, -, -, -, -, -, -, -, -, -, -, -, -, -, -, -, -, -, -, -, -, -, -, -, -, -, -, -, S_BY_VALUE, V_BY_VALUE, -, -, -, -, -, -, -, -, -, -, -, -, -, -, -, -, -, -, -, -, -, -, -, -, -, -, -, -, -, -⟩ := hW'
  refine own_go (B := s₁.setTop (mkF m 0 #[.val (.int (98 : Int32))] [])) (fun t k => castTop (ef_2 m (98 : Int32)) k) ?_
  obtain ⟨T1, X1, e1, st1⟩ := getS2 X0 hx hZ hown (host := "") (Or.inl (hw _ (List.mem_of_getElem? (i := 16) rfl))) Via.refl e0 (S_BY_VALUE.ext x0) (g := (mkF m 0 #[.val (.int (98 : Int32))] [])) rfl (hb hby d2_0)
  refine own_go (B := T1.setTop (mkF m 3 #[.val (.int (98 : Int32))] [(.ref (A 15))])) st1 ?_
  refine own_go (B := T1.setTop (mkF m 4 #[.val (.int (98 : Int32))] [(.int (98 : Int32)), (.ref (A 15))])) (fun _ k => XS.iloadN X1.here hx rfl (hb hby d2_3) rfl k) ?_
  refine own_go (B := T1.setTop (mkF m 5 #[.val (.int (98 : Int32))] [(.int (4 : Int32)), (.int (98 : Int32)), (.ref (A 15))])) (fun _ k => XT.iconstV X1.here hx rfl (4 : Int32) (hb hby d2_4) rfl k) ?_
  refine own_go (B := T1.setTop (mkF m 6 #[.val (.int (98 : Int32))] [(.int (((98 : Int32).toUInt32 >>> ((4 : Int32) &&& 31).toUInt32).toInt32)), (.ref (A 15))])) (fun _ k => XT.iushr X1.here hx rfl (hb hby d2_5) rfl k) ?_
  obtain ⟨k3, V3⟩ := id V_BY_VALUE
  obtain ⟨cl2, Ar2, q2a, q2b, q2c, q2d, q2e⟩ := id (V3.ext x0)
  have i2 := inb_of (j := (((98 : Int32).toUInt32 >>> ((4 : Int32) &&& 31).toUInt32).toInt32)) q2b ⟨by decide +kernel, by decide +kernel⟩
  refine own_go (B := T1.setTop (mkF m 7 #[.val (.int (98 : Int32))] [(.ref (A 2))])) (fun _ k => X1.aaload hx (j := (((98 : Int32).toUInt32 >>> ((4 : Int32) &&& 31).toUInt32).toInt32)) (v := (.ref (A 2))) (by rw [e1]; exact Ar2.1) (State.isArrayOf_alike hZ.alike Ar2.2.1) rfl Ar2.2.2 i2 (Has.at q2d i2 rfl) (g := (mkF m 6 #[.val (.int (98 : Int32))] [(.int (((98 : Int32).toUInt32 >>> ((4 : Int32) &&& 31).toUInt32).toInt32)), (.ref (A 15))])) rfl rfl (hb hby d2_6) _ k) ?_
  exact own_ret X1 hx (t := (.object "com/example/ferrybus/ferrybus/codec/PacketType")) hrt rfl (Or.inr (Or.inr (Or.inr (Or.inr ⟨rfl, rfl, rfl⟩)))) (hb hby d2_7) hlk ⟨rfl, N0, e1⟩ (by decide) (by decide)
set_option maxRecDepth 65536 in
set_option maxHeartbeats 40000000 in
theorem rm3_5 (l : Launch) (Z : State) (a0 : Array Value) (hw : ∀ d ∈ tables_1, d.before a0 Z = true) (ws : List Jvm.Cond)  (A : Nat → Addr) (hW : own_W Z A) (h0 : Heap) (x0 : Ext Z.heap h0)  :
    own_Met l Z (⟨"com/example/ferrybus/ferrybus/codec/PacketType", "allows", "(I)Z"⟩ : MethodName) prog_32_method_5_code 2 (some .boolean) ws ({ frames := 0, cells := 0, slots := 0, locals := 0 } : Room) #[(.ref (A 2)), (.int ((98 : Int32) &&& (15 : Int32)))] h0 (fun v_ h_ L_ => v_ = some (.int (1 : Int32)) ∧ Fr Z.heap.size L_ ∧ h_ = h0) := by
  refine own_body (plainFor_of_name pn_1) fun p e s m below meth c s₁ hx hby hml hown hnm hlk hrt hZ X0 e0 => ?_
  have N0 := Fr.nil Z.heap.size
  have hW' := hW
  obtain ⟨-, -, -, -, -, -, -, -, -, -, -, -, -, -, -, -, -, -, -, -, -, -, -, -, -, -, -, -, -, -, -, -, -, -, -, -, -, F_PUBREL_flags, -, -, -, -, -, -, -, -, -, -, -, -, -, -, -, -, -, -, -, -, -, -, -, -⟩ := hW'
  refine own_go (B := s₁.setTop (mkF m 0 #[.val (.ref (A 2)), .val (.int ((98 : Int32) &&& (15 : Int32)))] [])) (fun t k => castTop (ef_3 m (A 2) ((98 : Int32) &&& (15 : Int32))) k) ?_
  refine own_go (B := s₁.setTop (mkF m 1 #[.val (.ref (A 2)), .val (.int ((98 : Int32) &&& (15 : Int32)))] [(.ref (A 2))])) (fun _ k => XS.aloadN X0.here hx rfl (hb hby d3_0) rfl rfl k) ?_
  obtain ⟨T1, X1, e1, st1⟩ := getF X0 hx hZ hown (host := "") (Or.inl (hw _ (List.mem_of_getElem? (i := 11) rfl))) Via.refl e0 (F_PUBREL_flags.ext x0) (g := (mkF m 1 #[.val (.ref (A 2)), .val (.int ((98 : Int32) &&& (15 : Int32)))] [(.ref (A 2))])) rfl rfl (hb hby d3_1)
  refine own_go (B := T1.setTop (mkF m 4 #[.val (.ref (A 2)), .val (.int ((98 : Int32) &&& (15 : Int32)))] [(.int (2 : Int32))])) st1 ?_
  refine own_go (B := T1.setTop (mkF m 5 #[.val (.ref (A 2)), .val (.int ((98 : Int32) &&& (15 : Int32)))] [(.int (-1 : Int32)), (.int (2 : Int32))])) (fun _ k => XT.iconstV X1.here hx rfl (-1 : Int32) (hb hby d3_4) rfl k) ?_
  refine own_go (B := T1.setTop (mkF m 8 #[.val (.ref (A 2)), .val (.int ((98 : Int32) &&& (15 : Int32)))] [])) (fun _ k => XS.icmpNo X1.here hx rfl (hb hby d3_5) rfl (by decide) k) ?_
  refine own_go (B := T1.setTop (mkF m 9 #[.val (.ref (A 2)), .val (.int ((98 : Int32) &&& (15 : Int32)))] [(.ref (A 2))])) (fun _ k => XS.aloadN X1.here hx rfl (hb hby d3_8) rfl rfl k) ?_
  obtain ⟨T2, X2, e2, st2⟩ := getF X1 hx hZ hown (host := "") (Or.inl (hw _ (List.mem_of_getElem? (i := 11) rfl))) Via.refl e1 (F_PUBREL_flags.ext x0) (g := (mkF m 9 #[.val (.ref (A 2)), .val (.int ((98 : Int32) &&& (15 : Int32)))] [(.ref (A 2))])) rfl rfl (hb hby d3_9)
  refine own_go (B := T2.setTop (mkF m 12 #[.val (.ref (A 2)), .val (.int ((98 : Int32) &&& (15 : Int32)))] [(.int (2 : Int32))])) st2 ?_
  refine own_go (B := T2.setTop (mkF m 13 #[.val (.ref (A 2)), .val (.int ((98 : Int32) &&& (15 : Int32)))] [(.int ((98 : Int32) &&& (15 : Int32))), (.int (2 : Int32))])) (fun _ k => XS.iloadN X2.here hx rfl (hb hby d3_12) rfl k) ?_
  refine own_go (B := T2.setTop (mkF m 16 #[.val (.ref (A 2)), .val (.int ((98 : Int32) &&& (15 : Int32)))] [])) (fun _ k => XS.icmpNo X2.here hx rfl (hb hby d3_13) rfl (by decide +kernel) k) ?_
  refine own_go (B := T2.setTop (mkF m 17 #[.val (.ref (A 2)), .val (.int ((98 : Int32) &&& (15 : Int32)))] [(.int (1 : Int32))])) (fun _ k => XT.iconstV X2.here hx rfl (1 : Int32) (hb hby d3_16) rfl k) ?_
  refine own_go (B := T2.setTop (mkF m 21 #[.val (.ref (A 2)), .val (.int ((98 : Int32) &&& (15 : Int32)))] [(.int (1 : Int32))])) (fun _ k => XS.goto X2.here hx rfl (pc0 := 17) (pc' := 21) rfl (hb hby d3_17) (by decide) (by decide) k) ?_
  exact own_ret X2 hx (t := .boolean) hrt rfl (Or.inl ⟨rfl, by simp, _, rfl⟩) (hb hby d3_21) hlk ⟨rfl, N0, e2⟩ (by decide) (by decide)
set_option maxRecDepth 65536 in
set_option maxHeartbeats 40000000 in
theorem rm1_6 (l : Launch) (Z : State) (a0 : Array Value) (hw : ∀ d ∈ tables_1, d.before a0 Z = true) (ws : List Jvm.Cond)  (A : Nat → Addr) (hW : own_W Z A) (h0 : Heap) (x0 : Ext Z.heap h0)  :
    own_Met l Z (⟨"com/example/ferrybus/ferrybus/codec/PacketType", "firstByte", "()I"⟩ : MethodName) prog_32_method_6_code 1 (some .int) ws ({ frames := 0, cells := 0, slots := 0, locals := 0 } : Room) #[(.ref (A 4))] h0 (fun v_ h_ L_ => v_ = some (.int (112 : Int32)) ∧ Fr Z.heap.size L_ ∧ h_ = h0) := by
  refine own_body (plainFor_of_name pn_1) fun p e s m below meth c s₁ hx hby hml hown hnm hlk hrt hZ X0 e0 => ?_
  have N0 := Fr.nil Z.heap.size
  have hW' := hW
  obtain ⟨-, -, -, -, -, -, -, -, -, -, -, -, -, -, -, -, -, -, -, -, -, -, -, -, -, -, -, -, -, -, -, -, -, -, -, -, -, -, -, -, F_PUBCOMP_value, F_PUBCOMP_flags, -, -, -, -, -, -, -, -, -, -, -, -, -, -, -, -, -, -, -, -⟩ := hW'
  refine own_go (B := s₁.setTop (mkF m 0 #[.val (.ref (A 4))] [])) (fun t k => castTop (ef_1 m (A 4)) k) ?_
  refine own_go (B := s₁.setTop (mkF m 1 #[.val (.ref (A 4))] [(.ref (A 4))])) (fun _ k => XS.aloadN X0.here hx rfl (hb hby d1_0) rfl rfl k) ?_
  obtain ⟨T1, X1, e1, st1⟩ := getF X0 hx hZ hown (host := "") (Or.inl (hw _ (List.mem_of_getElem? (i := 9) rfl))) Via.refl e0 (F_PUBCOMP_value.ext x0) (g := (mkF m 1 #[.val (.ref (A 4))] [(.ref (A 4))])) rfl rfl (hb hby d1_1)
  refine own_go (B := T1.setTop (mkF m 4 #[.val (.ref (A 4))] [(.int (7 : Int32))])) st1 ?_
  refine own_go (B := T1.setTop (mkF m 5 #[.val (.ref (A 4))] [(.int (4 : Int32)), (.int (7 : Int32))])) (fun _ k => XT.iconstV X1.here hx rfl (4 : Int32) (hb hby d1_4) rfl k) ?_
  refine own_go (B := T1.setTop (mkF m 6 #[.val (.ref (A 4))] [(.int ((7 : Int32) <<< ((4 : Int32) &&& 31)))])) (fun _ k => XT.ishl X1.here hx rfl (hb hby d1_5) rfl k) ?_
  refine own_go (B := T1.setTop (mkF m 7 #[.val (.ref (A 4))] [(.ref (A 4)), (.int ((7 : Int32) <<< ((4 : Int32) &&& 31)))])) (fun _ k => XS.aloadN X1.here hx rfl (hb hby d1_6) rfl rfl k) ?_
  obtain ⟨T2, X2, e2, st2⟩ := getF X1 hx hZ hown (host := "") (Or.inl (hw _ (List.mem_of_getElem? (i := 11) rfl))) Via.refl e1 (F_PUBCOMP_flags.ext x0) (g := (mkF m 7 #[.val (.ref (A 4))] [(.ref (A 4)), (.int ((7 : Int32) <<< ((4 : Int32) &&& 31)))])) rfl rfl (hb hby d1_7)
  refine own_go (B := T2.setTop (mkF m 10 #[.val (.ref (A 4))] [(.int (0 : Int32)), (.int ((7 : Int32) <<< ((4 : Int32) &&& 31)))])) st2 ?_
  refine own_go (B := T2.setTop (mkF m 11 #[.val (.ref (A 4))] [(.int (-1 : Int32)), (.int (0 : Int32)), (.int ((7 : Int32) <<< ((4 : Int32) &&& 31)))])) (fun _ k => XT.iconstV X2.here hx rfl (-1 : Int32) (hb hby d1_10) rfl k) ?_
  refine own_go (B := T2.setTop (mkF m 18 #[.val (.ref (A 4))] [(.int ((7 : Int32) <<< ((4 : Int32) &&& 31)))])) (fun _ k => XS.icmpYes X2.here hx rfl (pc0 := 11) (pc' := 18) rfl (hb hby d1_11) rfl (by decide) (by decide) (by decide) k) ?_
  refine own_go (B := T2.setTop (mkF m 19 #[.val (.ref (A 4))] [(.ref (A 4)), (.int ((7 : Int32) <<< ((4 : Int32) &&& 31)))])) (fun _ k => XS.aloadN X2.here hx rfl (hb hby d1_18) rfl rfl k) ?_
  obtain ⟨T3, X3, e3, st3⟩ := getF X2 hx hZ hown (host := "") (Or.inl (hw _ (List.mem_of_getElem? (i := 11) rfl))) Via.refl e2 (F_PUBCOMP_flags.ext x0) (g := (mkF m 19 #[.val (.ref (A 4))] [(.ref (A 4)), (.int ((7 : Int32) <<< ((4 : Int32) &&& 31)))])) rfl rfl (hb hby d1_19)
  refine own_go (B := T3.setTop (mkF m 22 #[.val (.ref (A 4))] [(.int (0 : Int32)), (.int ((7 : Int32) <<< ((4 : Int32) &&& 31)))])) st3 ?_
  refine own_go (B := T3.setTop (mkF m 23 #[.val (.ref (A 4))] [(.int (((7 : Int32) <<< ((4 : Int32) &&& 31)) ||| (0 : Int32)))])) (fun _ k => XT.ior X3.here hx rfl (hb hby d1_22) rfl k) ?_
  exact own_ret X3 hx (t := .int) hrt rfl (Or.inl ⟨rfl, by simp, _, rfl⟩) (hb hby d1_23) hlk ⟨(congrArg (fun z => some (Value.int z)) (by decide +kernel : (((7 : Int32) <<< ((4 : Int32) &&& 31)) ||| (0 : Int32)) = (112 : Int32))), N0, e3⟩ (by decide) (by decide)
set_option maxRecDepth 65536 in
set_option maxHeartbeats 40000000 in
theorem rm2_6 (l : Launch) (Z : State) (a0 : Array Value) (hw : ∀ d ∈ tables_1, d.before a0 Z = true) (ws : List Jvm.Cond)  (A : Nat → Addr) (hW : own_W Z A) (h0 : Heap) (x0 : Ext Z.heap h0)  :
    own_Met l Z (⟨"com/example/ferrybus/ferrybus/codec/PacketType", "of", "(I)Lcom/example/ferrybus/ferrybus/codec/PacketType;"⟩ : MethodName) prog_32_method_4_code 1 (some (.object "com/example/ferrybus/ferrybus/codec/PacketType")) ws ({ frames := 0, cells := 0, slots := 0, locals := 0 } : Room) #[(.int (112 : Int32))] h0 (fun v_ h_ L_ => v_ = some (.ref (A 4)) ∧ Fr Z.heap.size L_ ∧ h_ = h0) := by
  refine own_body (plainFor_of_name pn_1) fun p e s m below meth c s₁ hx hby hml hown hnm hlk hrt hZ X0 e0 => ?_
  have N0 := Fr.nil Z.heap.size
  have hW' := hW
  obtain ⟨-, -, -, -, -, -, -, -, -, -, -, -, -, -, -, -, -, -, -, -, -, -, -, -, -, -, -, -, -, -, S_BY_VALUE, V_BY_VALUE, -, -, -, -, -, -, -, -, -, -, -, -, -, -, -, -, -, -, -, -, -, -, -, -, -, -, -, -, -, -⟩ := hW'
  refine own_go (B := s₁.setTop (mkF m 0 #[.val (.int (112 : Int32))] [])) (fun t k => castTop (ef_2 m (112 : Int32)) k) ?_
  obtain ⟨T1, X1, e1, st1⟩ := getS2 X0 hx hZ hown (host := "") (Or.inl (hw _ (List.mem_of_getElem? (i := 16) rfl))) Via.refl e0 (S_BY_VALUE.ext x0) (g := (mkF m 0 #[.val (.int (112 : Int32))] [])) rfl (hb hby d2_0)
  refine own_go (B := T1.setTop (mkF m 3 #[.val (.int (112 : Int32))] [(.ref (A 15))])) st1 ?_
  refine own_go (B := T1.setTop (mkF m 4 #[.val (.int (112 : Int32))] [(.int (112 : Int32)), (.ref (A 15))])) (fun _ k => XS.iloadN X1.here hx rfl (hb hby d2_3) rfl k) ?_
  refine own_go (B := T1.setTop (mkF m 5 #[.val (.int (112 : Int32))] [(.int (4 : Int32)), (.int (112 : Int32)), (.ref (A 15))])) (fun _ k => XT.iconstV X1.here hx rfl (4 : Int32) (hb hby d2_4) rfl k) ?_
  refine own_go (B := T1.setTop (mkF m 6 #[.val (.int (112 : Int32))] [(.int (((112 : Int32).toUInt32 >>> ((4 : Int32) &&& 31).toUInt32).toInt32)), (.ref (A 15))])) (fun _ k => XT.iushr X1.here hx rfl (hb hby d2_5) rfl k) ?_
  obtain ⟨k3, V3⟩ := id V_BY_VALUE
  obtain ⟨cl2, Ar2, q2a, q2b, q2c, q2d, q2e⟩ := id (V3.ext x0)
  have i2 := inb_of (j := (((112 : Int32).toUInt32 >>> ((4 : Int32) &&& 31).toUInt32).toInt32)) q2b ⟨by decide +kernel, by decide +kernel⟩
  refine own_go (B := T1.setTop (mkF m 7 #[.val (.int (112 : Int32))] [(.ref (A 4))])) (fun _ k => X1.aaload hx (j := (((112 : Int32).toUInt32 >>> ((4 : Int32) &&& 31).toUInt32).toInt32)) (v := (.ref (A 4))) (by rw [e1]; exact Ar2.1) (State.isArrayOf_alike hZ.alike Ar2.2.1) rfl Ar2.2.2 i2 (Has.at q2d i2 rfl) (g := (mkF m 6 #[.val (.int (112 : Int32))] [(.int (((112 : Int32).toUInt32 >>> ((4 : Int32) &&& 31).toUInt32).toInt32)), (.ref (A 15))])) rfl rfl (hb hby d2_6) _ k) ?_
  exact own_ret X1 hx (t := (.object "com/example/ferrybus/ferrybus/codec/PacketType")) hrt rfl (Or.inr (Or.inr (Or.inr (Or.inr ⟨rfl, rfl, rfl⟩)))) (hb hby d2_7) hlk ⟨rfl, N0, e1⟩ (by decide) (by decide)
set_option maxRecDepth 65536 in
set_option maxHeartbeats 40000000 in
theorem rm3_6 (l : Launch) (Z : State) (a0 : Array Value) (hw : ∀ d ∈ tables_1, d.before a0 Z = true) (ws : List Jvm.Cond)  (A : Nat → Addr) (hW : own_W Z A) (h0 : Heap) (x0 : Ext Z.heap h0)  :
    own_Met l Z (⟨"com/example/ferrybus/ferrybus/codec/PacketType", "allows", "(I)Z"⟩ : MethodName) prog_32_method_5_code 2 (some .boolean) ws ({ frames := 0, cells := 0, slots := 0, locals := 0 } : Room) #[(.ref (A 4)), (.int ((112 : Int32) &&& (15 : Int32)))] h0 (fun v_ h_ L_ => v_ = some (.int (1 : Int32)) ∧ Fr Z.heap.size L_ ∧ h_ = h0) := by
  refine own_body (plainFor_of_name pn_1) fun p e s m below meth c s₁ hx hby hml hown hnm hlk hrt hZ X0 e0 => ?_
  have N0 := Fr.nil Z.heap.size
  have hW' := hW
  obtain ⟨-, -, -, -, -, -, -, -, -, -, -, -, -, -, -, -, -, -, -, -, -, -, -, -, -, -, -, -, -, -, -, -, -, -, -, -, -, -, -, -, -, F_PUBCOMP_flags, -, -, -, -, -, -, -, -, -, -, -, -, -, -, -, -, -, -, -, -⟩ := hW'
  refine own_go (B := s₁.setTop (mkF m 0 #[.val (.ref (A 4)), .val (.int ((112 : Int32) &&& (15 : Int32)))] [])) (fun t k => castTop (ef_3 m (A 4) ((112 : Int32) &&& (15 : Int32))) k) ?_
  refine own_go (B := s₁.setTop (mkF m 1 #[.val (.ref (A 4)), .val (.int ((112 : Int32) &&& (15 : Int32)))] [(.ref (A 4))])) (fun _ k => XS.aloadN X0.here hx rfl (hb hby d3_0) rfl rfl k) ?_
  obtain ⟨T1, X1, e1, st1⟩ := getF X0 hx hZ hown (host := "") (Or.inl (hw _ (List.mem_of_getElem? (i := 11) rfl))) Via.refl e0 (F_PUBCOMP_flags.ext x0) (g := (mkF m 1 #[.val (.ref (A 4)), .val (.int ((112 : Int32) &&& (15 : Int32)))] [(.ref (A 4))])) rfl rfl (hb hby d3_1)
  refine own_go (B := T1.setTop (mkF m 4 #[.val (.ref (A 4)), .val (.int ((112 : Int32) &&& (15 : Int32)))] [(.int (0 : Int32))])) st1 ?_
  refine own_go (B := T1.setTop (mkF m 5 #[.val (.ref (A 4)), .val (.int ((112 : Int32) &&& (15 : Int32)))] [(.int (-1 : Int32)), (.int (0 : Int32))])) (fun _ k => XT.iconstV X1.here hx rfl (-1 : Int32) (hb hby d3_4) rfl k) ?_
  refine own_go (B := T1.setTop (mkF m 8 #[.val (.ref (A 4)), .val (.int ((112 : Int32) &&& (15 : Int32)))] [])) (fun _ k => XS.icmpNo X1.here hx rfl (hb hby d3_5) rfl (by decide) k) ?_
  refine own_go (B := T1.setTop (mkF m 9 #[.val (.ref (A 4)), .val (.int ((112 : Int32) &&& (15 : Int32)))] [(.ref (A 4))])) (fun _ k => XS.aloadN X1.here hx rfl (hb hby d3_8) rfl rfl k) ?_
  obtain ⟨T2, X2, e2, st2⟩ := getF X1 hx hZ hown (host := "") (Or.inl (hw _ (List.mem_of_getElem? (i := 11) rfl))) Via.refl e1 (F_PUBCOMP_flags.ext x0) (g := (mkF m 9 #[.val (.ref (A 4)), .val (.int ((112 : Int32) &&& (15 : Int32)))] [(.ref (A 4))])) rfl rfl (hb hby d3_9)
  refine own_go (B := T2.setTop (mkF m 12 #[.val (.ref (A 4)), .val (.int ((112 : Int32) &&& (15 : Int32)))] [(.int (0 : Int32))])) st2 ?_
  refine own_go (B := T2.setTop (mkF m 13 #[.val (.ref (A 4)), .val (.int ((112 : Int32) &&& (15 : Int32)))] [(.int ((112 : Int32) &&& (15 : Int32))), (.int (0 : Int32))])) (fun _ k => XS.iloadN X2.here hx rfl (hb hby d3_12) rfl k) ?_
  refine own_go (B := T2.setTop (mkF m 16 #[.val (.ref (A 4)), .val (.int ((112 : Int32) &&& (15 : Int32)))] [])) (fun _ k => XS.icmpNo X2.here hx rfl (hb hby d3_13) rfl (by decide +kernel) k) ?_
  refine own_go (B := T2.setTop (mkF m 17 #[.val (.ref (A 4)), .val (.int ((112 : Int32) &&& (15 : Int32)))] [(.int (1 : Int32))])) (fun _ k => XT.iconstV X2.here hx rfl (1 : Int32) (hb hby d3_16) rfl k) ?_
  refine own_go (B := T2.setTop (mkF m 21 #[.val (.ref (A 4)), .val (.int ((112 : Int32) &&& (15 : Int32)))] [(.int (1 : Int32))])) (fun _ k => XS.goto X2.here hx rfl (pc0 := 17) (pc' := 21) rfl (hb hby d3_17) (by decide) (by decide) k) ?_
  exact own_ret X2 hx (t := .boolean) hrt rfl (Or.inl ⟨rfl, by simp, _, rfl⟩) (hb hby d3_21) hlk ⟨rfl, N0, e2⟩ (by decide) (by decide)
set_option maxRecDepth 65536 in
set_option maxHeartbeats 40000000 in
theorem rm1_7 (l : Launch) (Z : State) (a0 : Array Value) (hw : ∀ d ∈ tables_1, d.before a0 Z = true) (ws : List Jvm.Cond)  (A : Nat → Addr) (hW : own_W Z A) (h0 : Heap) (x0 : Ext Z.heap h0)  :
    own_Met l Z (⟨"com/example/ferrybus/ferrybus/codec/PacketType", "firstByte", "()I"⟩ : MethodName) prog_32_method_6_code 1 (some .int) ws ({ frames := 0, cells := 0, slots := 0, locals := 0 } : Room) #[(.ref (A 6))] h0 (fun v_ h_ L_ => v_ = some (.int (130 : Int32)) ∧ Fr Z.heap.size L_ ∧ h_ = h0) := by
  refine own_body (plainFor_of_name pn_1) fun p e s m below meth c s₁ hx hby hml hown hnm hlk hrt hZ X0 e0 => ?_
  have N0 := Fr.nil Z.heap.size
  have hW' := hW
  obtain ⟨-, -, -, -, -, -, -, -, -, -, -, -, -, -, -, -, -, -, -, -, -, -, -, -, -, -, -, -, -, -, -, -, -, -, -, -, -, -, -, -, -, -, -, -, F_SUBSCRIBE_value, F_SUBSCRIBE_flags, -, -, -, -, -, -, -, -, -, -, -, -, -, -, -, -⟩ := hW'
  refine own_go (B := s₁.setTop (mkF m 0 #[.val (.ref (A 6))] [])) (fun t k => castTop (ef_1 m (A 6)) k) ?_
  refine own_go (B := s₁.setTop (mkF m 1 #[.val (.ref (A 6))] [(.ref (A 6))])) (fun _ k => XS.aloadN X0.here hx rfl (hb hby d1_0) rfl rfl k) ?_
  obtain ⟨T1, X1, e1, st1⟩ := getF X0 hx hZ hown (host := "") (Or.inl (hw _ (List.mem_of_getElem? (i := 9) rfl))) Via.refl e0 (F_SUBSCRIBE_value.ext x0) (g := (mkF m 1 #[.val (.ref (A 6))] [(.ref (A 6))])) rfl rfl (hb hby d1_1)
  refine own_go (B := T1.setTop (mkF m 4 #[.val (.ref (A 6))] [(.int (8 : Int32))])) st1 ?_
  refine own_go (B := T1.setTop (mkF m 5 #[.val (.ref (A 6))] [(.int (4 : Int32)), (.int (8 : Int32))])) (fun _ k => XT.iconstV X1.here hx rfl (4 : Int32) (hb hby d1_4) rfl k) ?_
  refine own_go (B := T1.setTop (mkF m 6 #[.val (.ref (A 6))] [(.int ((8 : Int32) <<< ((4 : Int32) &&& 31)))])) (fun _ k => XT.ishl X1.here hx rfl (hb hby d1_5) rfl k) ?_
  refine own_go (B := T1.setTop (mkF m 7 #[.val (.ref (A 6))] [(.ref (A 6)), (.int ((8 : Int32) <<< ((4 : Int32) &&& 31)))])) (fun _ k => XS.aloadN X1.here hx rfl (hb hby d1_6) rfl rfl k) ?_
  obtain ⟨T2, X2, e2, st2⟩ := getF X1 hx hZ hown (host := "") (Or.inl (hw _ (List.mem_of_getElem? (i := 11) rfl))) Via.refl e1 (F_SUBSCRIBE_flags.ext x0) (g := (mkF m 7 #[.val (.ref (A 6))] [(.ref (A 6)), (.int ((8 : Int32) <<< ((4 : Int32) &&& 31)))])) rfl rfl (hb hby d1_7)
  refine own_go (B := T2.setTop (mkF m 10 #[.val (.ref (A 6))] [(.int (2 : Int32)), (.int ((8 : Int32) <<< ((4 : Int32) &&& 31)))])) st2 ?_
  refine own_go (B := T2.setTop (mkF m 11 #[.val (.ref (A 6))] [(.int (-1 : Int32)), (.int (2 : Int32)), (.int ((8 : Int32) <<< ((4 : Int32) &&& 31)))])) (fun _ k => XT.iconstV X2.here hx rfl (-1 : Int32) (hb hby d1_10) rfl k) ?_
  refine own_go (B := T2.setTop (mkF m 18 #[.val (.ref (A 6))] [(.int ((8 : Int32) <<< ((4 : Int32) &&& 31)))])) (fun _ k => XS.icmpYes X2.here hx rfl (pc0 := 11) (pc' := 18) rfl (hb hby d1_11) rfl (by decide) (by decide) (by decide) k) ?_
  refine own_go (B := T2.setTop (mkF m 19 #[.val (.ref (A 6))] [(.ref (A 6)), (.int ((8 : Int32) <<< ((4 : Int32) &&& 31)))])) (fun _ k => XS.aloadN X2.here hx rfl (hb hby d1_18) rfl rfl k) ?_
  obtain ⟨T3, X3, e3, st3⟩ := getF X2 hx hZ hown (host := "") (Or.inl (hw _ (List.mem_of_getElem? (i := 11) rfl))) Via.refl e2 (F_SUBSCRIBE_flags.ext x0) (g := (mkF m 19 #[.val (.ref (A 6))] [(.ref (A 6)), (.int ((8 : Int32) <<< ((4 : Int32) &&& 31)))])) rfl rfl (hb hby d1_19)
  refine own_go (B := T3.setTop (mkF m 22 #[.val (.ref (A 6))] [(.int (2 : Int32)), (.int ((8 : Int32) <<< ((4 : Int32) &&& 31)))])) st3 ?_
  refine own_go (B := T3.setTop (mkF m 23 #[.val (.ref (A 6))] [(.int (((8 : Int32) <<< ((4 : Int32) &&& 31)) ||| (2 : Int32)))])) (fun _ k => XT.ior X3.here hx rfl (hb hby d1_22) rfl k) ?_
  exact own_ret X3 hx (t := .int) hrt rfl (Or.inl ⟨rfl, by simp, _, rfl⟩) (hb hby d1_23) hlk ⟨(congrArg (fun z => some (Value.int z)) (by decide +kernel : (((8 : Int32) <<< ((4 : Int32) &&& 31)) ||| (2 : Int32)) = (130 : Int32))), N0, e3⟩ (by decide) (by decide)
set_option maxRecDepth 65536 in
set_option maxHeartbeats 40000000 in
theorem rm2_7 (l : Launch) (Z : State) (a0 : Array Value) (hw : ∀ d ∈ tables_1, d.before a0 Z = true) (ws : List Jvm.Cond)  (A : Nat → Addr) (hW : own_W Z A) (h0 : Heap) (x0 : Ext Z.heap h0)  :
    own_Met l Z (⟨"com/example/ferrybus/ferrybus/codec/PacketType", "of", "(I)Lcom/example/ferrybus/ferrybus/codec/PacketType;"⟩ : MethodName) prog_32_method_4_code 1 (some (.object "com/example/ferrybus/ferrybus/codec/PacketType")) ws ({ frames := 0, cells := 0, slots := 0, locals := 0 } : Room) #[(.int (130 : Int32))] h0 (fun v_ h_ L_ => v_ = some (.ref (A 6)) ∧ Fr Z.heap.size L_ ∧ h_ = h0) := by
  refine own_body (plainFor_of_name pn_1) fun p e s m below meth c s₁ hx hby hml hown hnm hlk hrt hZ X0 e0 => ?_
  have N0 := Fr.nil Z.heap.size
  have hW' := hW
  obtain ⟨-, -, -, -, -, -, -, -, -, -, -, -, -, -, -, -, -, -, -, -, -, -, -, -, -, -, -, -, -, -, S_BY_VALUE, V_BY_VALUE, -, -, -, -, -, -, -, -, -, -, -, -, -, -, -, -, -, -, -, -, -, -, -, -, -, -, -, -, -, -⟩ := hW'
  refine own_go (B := s₁.setTop (mkF m 0 #[.val (.int (130 : Int32))] [])) (fun t k => castTop (ef_2 m (130 : Int32)) k) ?_
  obtain ⟨T1, X1, e1, st1⟩ := getS2 X0 hx hZ hown (host := "") (Or.inl (hw _ (List.mem_of_getElem? (i := 16) rfl))) Via.refl e0 (S_BY_VALUE.ext x0) (g := (mkF m 0 #[.val (.int (130 : Int32))] [])) rfl (hb hby d2_0)
  refine own_go (B := T1.setTop (mkF m 3 #[.val (.int (130 : Int32))] [(.ref (A 15))])) st1 ?_
  refine own_go (B := T1.setTop (mkF m 4 #[.val (.int (130 : Int32))] [(.int (130 : Int32)), (.ref (A 15))])) (fun _ k => XS.iloadN X1.here hx rfl (hb hby d2_3) rfl k) ?_
  refine own_go (B := T1.setTop (mkF m 5 #[.val (.int (130 : Int32))] [(.int (4 : Int32)), (.int (130 : Int32)), (.ref (A 15))])) (fun _ k => XT.iconstV X1.here hx rfl (4 : Int32) (hb hby d2_4) rfl k) ?_
  refine own_go (B := T1.setTop (mkF m 6 #[.val (.int (130 : Int32))] [(.int (((130 : Int32).toUInt32 >>> ((4 : Int32) &&& 31).toUInt32).toInt32)), (.ref (A 15))])) (fun _ k => XT.iushr X1.here hx rfl (hb hby d2_5) rfl k) ?_
  obtain ⟨k3, V3⟩ := id V_BY_VALUE
  obtain ⟨cl2, Ar2, q2a, q2b, q2c, q2d, q2e⟩ := id (V3.ext x0)
  have i2 := inb_of (j := (((130 : Int32).toUInt32 >>> ((4 : Int32) &&& 31).toUInt32).toInt32)) q2b ⟨by decide +kernel, by decide +kernel⟩
  refine own_go (B := T1.setTop (mkF m 7 #[.val (.int (130 : Int32))] [(.ref (A 6))])) (fun _ k => X1.aaload hx (j := (((130 : Int32).toUInt32 >>> ((4 : Int32) &&& 31).toUInt32).toInt32)) (v := (.ref (A 6))) (by rw [e1]; exact Ar2.1) (State.isArrayOf_alike hZ.alike Ar2.2.1) rfl Ar2.2.2 i2 (Has.at q2d i2 rfl) (g := (mkF m 6 #[.val (.int (130 : Int32))] [(.int (((130 : Int32).toUInt32 >>> ((4 : Int32) &&& 31).toUInt32).toInt32)), (.ref (A 15))])) rfl rfl (hb hby d2_6) _ k) ?_
  exact own_ret X1 hx (t := (.object "com/example/ferrybus/ferrybus/codec/PacketType")) hrt rfl (Or.inr (Or.inr (Or.inr (Or.inr ⟨rfl, rfl, rfl⟩)))) (hb hby d2_7) hlk ⟨rfl, N0, e1⟩ (by decide) (by decide)
set_option maxRecDepth 65536 in
set_option maxHeartbeats 40000000 in
theorem rm3_7 (l : Launch) (Z : State) (a0 : Array Value) (hw : ∀ d ∈ tables_1, d.before a0 Z = true) (ws : List Jvm.Cond)  (A : Nat → Addr) (hW : own_W Z A) (h0 : Heap) (x0 : Ext Z.heap h0)  :
    own_Met l Z (⟨"com/example/ferrybus/ferrybus/codec/PacketType", "allows", "(I)Z"⟩ : MethodName) prog_32_method_5_code 2 (some .boolean) ws ({ frames := 0, cells := 0, slots := 0, locals := 0 } : Room) #[(.ref (A 6)), (.int ((130 : Int32) &&& (15 : Int32)))] h0 (fun v_ h_ L_ => v_ = some (.int (1 : Int32)) ∧ Fr Z.heap.size L_ ∧ h_ = h0) := by
  refine own_body (plainFor_of_name pn_1) fun p e s m below meth c s₁ hx hby hml hown hnm hlk hrt hZ X0 e0 => ?_
  have N0 := Fr.nil Z.heap.size
  have hW' := hW
  obtain ⟨-, -, -, -, -, -, -, -, -, -, -, -, -, -, -, -, -, -, -, -, -, -, -, -, -, -, -, -, -, -, -, -, -, -, -, -, -, -, -, -, -, -, -, -, -, F_SUBSCRIBE_flags, -, -, -, -, -, -, -, -, -, -, -, -, -, -, -, -⟩ := hW'
  refine own_go (B := s₁.setTop (mkF m 0 #[.val (.ref (A 6)), .val (.int ((130 : Int32) &&& (15 : Int32)))] [])) (fun t k => castTop (ef_3 m (A 6) ((130 : Int32) &&& (15 : Int32))) k) ?_
  refine own_go (B := s₁.setTop (mkF m 1 #[.val (.ref (A 6)), .val (.int ((130 : Int32) &&& (15 : Int32)))] [(.ref (A 6))])) (fun _ k => XS.aloadN X0.here hx rfl (hb hby d3_0) rfl rfl k) ?_
  obtain ⟨T1, X1, e1, st1⟩ := getF X0 hx hZ hown (host := "") (Or.inl (hw _ (List.mem_of_getElem? (i := 11) rfl))) Via.refl e0 (F_SUBSCRIBE_flags.ext x0) (g := (mkF m 1 #[.val (.ref (A 6)), .val (.int ((130 : Int32) &&& (15 : Int32)))] [(.ref (A 6))])) rfl rfl (hb hby d3_1)
  refine own_go (B := T1.setTop (mkF m 4 #[.val (.ref (A 6)), .val (.int ((130 : Int32) &&& (15 : Int32)))] [(.int (2 : Int32))])) st1 ?_
  refine own_go (B := T1.setTop (mkF m 5 #[.val (.ref (A 6)), .val (.int ((130 : Int32) &&& (15 : Int32)))] [(.int (-1 : Int32)), (.int (2 : Int32))])) (fun _ k => XT.iconstV X1.here hx rfl (-1 : Int32) (hb hby d3_4) rfl k) ?_
  refine own_go (B := T1.setTop (mkF m 8 #[.val (.ref (A 6)), .val (.int ((130 : Int32) &&& (15 : Int32)))] [])) (fun _ k => XS.icmpNo X1.here hx rfl (hb hby d3_5) rfl (by decide) k) ?_
  refine own_go (B := T1.setTop (mkF m 9 #[.val (.ref (A 6)), .val (.int ((130 : Int32) &&& (15 : Int32)))] [(.ref (A 6))])) (fun _ k => XS.aloadN X1.here hx rfl (hb hby d3_8) rfl rfl k) ?_
  obtain ⟨T2, X2, e2, st2⟩ := getF X1 hx hZ hown (host := "") (Or.inl (hw _ (List.mem_of_getElem? (i := 11) rfl))) Via.refl e1 (F_SUBSCRIBE_flags.ext x0) (g := (mkF m 9 #[.val (.ref (A 6)), .val (.int ((130 : Int32) &&& (15 : Int32)))] [(.ref (A 6))])) rfl rfl (hb hby d3_9)
  refine own_go (B := T2.setTop (mkF m 12 #[.val (.ref (A 6)), .val (.int ((130 : Int32) &&& (15 : Int32)))] [(.int (2 : Int32))])) st2 ?_
  refine own_go (B := T2.setTop (mkF m 13 #[.val (.ref (A 6)), .val (.int ((130 : Int32) &&& (15 : Int32)))] [(.int ((130 : Int32) &&& (15 : Int32))), (.int (2 : Int32))])) (fun _ k => XS.iloadN X2.here hx rfl (hb hby d3_12) rfl k) ?_
  refine own_go (B := T2.setTop (mkF m 16 #[.val (.ref (A 6)), .val (.int ((130 : Int32) &&& (15 : Int32)))] [])) (fun _ k => XS.icmpNo X2.here hx rfl (hb hby d3_13) rfl (by decide +kernel) k) ?_
  refine own_go (B := T2.setTop (mkF m 17 #[.val (.ref (A 6)), .val (.int ((130 : Int32) &&& (15 : Int32)))] [(.int (1 : Int32))])) (fun _ k => XT.iconstV X2.here hx rfl (1 : Int32) (hb hby d3_16) rfl k) ?_
  refine own_go (B := T2.setTop (mkF m 21 #[.val (.ref (A 6)), .val (.int ((130 : Int32) &&& (15 : Int32)))] [(.int (1 : Int32))])) (fun _ k => XS.goto X2.here hx rfl (pc0 := 17) (pc' := 21) rfl (hb hby d3_17) (by decide) (by decide) k) ?_
  exact own_ret X2 hx (t := .boolean) hrt rfl (Or.inl ⟨rfl, by simp, _, rfl⟩) (hb hby d3_21) hlk ⟨rfl, N0, e2⟩ (by decide) (by decide)
set_option maxRecDepth 65536 in
set_option maxHeartbeats 40000000 in
theorem rm1_8 (l : Launch) (Z : State) (a0 : Array Value) (hw : ∀ d ∈ tables_1, d.before a0 Z = true) (ws : List Jvm.Cond)  (A : Nat → Addr) (hW : own_W Z A) (h0 : Heap) (x0 : Ext Z.heap h0)  :
    own_Met l Z (⟨"com/example/ferrybus/ferrybus/codec/PacketType", "firstByte", "()I"⟩ : MethodName) prog_32_method_6_code 1 (some .int) ws ({ frames := 0, cells := 0, slots := 0, locals := 0 } : Room) #[(.ref (A 10))] h0 (fun v_ h_ L_ => v_ = some (.int (144 : Int32)) ∧ Fr Z.heap.size L_ ∧ h_ = h0) := by
  refine own_body (plainFor_of_name pn_1) fun p e s m below meth c s₁ hx hby hml hown hnm hlk hrt hZ X0 e0 => ?_
  have N0 := Fr.nil Z.heap.size
  have hW' := hW
  obtain ⟨-, -, -, -, -, -, -, -, -, -, -, -, -, -, -, -, -, -, -, -, -, -, -, -, -, -, -, -, -, -, -, -, -, -, -, -, -, -, -, -, -, -, -, -, -, -, -, -, -, -, -, -, F_SUBACK_value, F_SUBACK_flags, -, -, -, -, -, -, -, -⟩ := hW'
  refine own_go (B := s₁.setTop (mkF m 0 #[.val (.ref (A 10))] [])) (fun t k => castTop (ef_1 m (A 10)) k) ?_
  refine own_go (B := s₁.setTop (mkF m 1 #[.val (.ref (A 10))] [(.ref (A 10))])) (fun _ k => XS.aloadN X0.here hx rfl (hb hby d1_0) rfl rfl k) ?_
  obtain ⟨T1, X1, e1, st1⟩ := getF X0 hx hZ hown (host := "") (Or.inl (hw _ (List.mem_of_getElem? (i := 9) rfl))) Via.refl e0 (F_SUBACK_value.ext x0) (g := (mkF m 1 #[.val (.ref (A 10))] [(.ref (A 10))])) rfl rfl (hb hby d1_1)
  refine own_go (B := T1.setTop (mkF m 4 #[.val (.ref (A 10))] [(.int (9 : Int32))])) st1 ?_
  refine own_go (B := T1.setTop (mkF m 5 #[.val (.ref (A 10))] [(.int (4 : Int32)), (.int (9 : Int32))])) (fun _ k => XT.iconstV X1.here hx rfl (4 : Int32) (hb hby d1_4) rfl k) ?_
  refine own_go (B := T1.setTop (mkF m 6 #[.val (.ref (A 10))] [(.int ((9 : Int32) <<< ((4 : Int32) &&& 31)))])) (fun _ k => XT.ishl X1.here hx rfl (hb hby d1_5) rfl k) ?_
  refine own_go (B := T1.setTop (mkF m 7 #[.val (.ref (A 10))] [(.ref (A 10)), (.int ((9 : Int32) <<< ((4 : Int32) &&& 31)))])) (fun _ k => XS.aloadN X1.here hx rfl (hb hby d1_6) rfl rfl k) ?_
  obtain ⟨T2, X2, e2, st2⟩ := getF X1 hx hZ hown (host := "") (Or.inl (hw _ (List.mem_of_getElem? (i := 11) rfl))) Via.refl e1 (F_SUBACK_flags.ext x0) (g := (mkF m 7 #[.val (.ref (A 10))] [(.ref (A 10)), (.int ((9 : Int32) <<< ((4 : Int32) &&& 31)))])) rfl rfl (hb hby d1_7)
  refine own_go (B := T2.setTop (mkF m 10 #[.val (.ref (A 10))] [(.int (0 : Int32)), (.int ((9 : Int32) <<< ((4 : Int32) &&& 31)))])) st2 ?_
  refine own_go (B := T2.setTop (mkF m 11 #[.val (.ref (A 10))] [(.int (-1 : Int32)), (.int (0 : Int32)), (.int ((9 : Int32) <<< ((4 : Int32) &&& 31)))])) (fun _ k => XT.iconstV X2.here hx rfl (-1 : Int32) (hb hby d1_10) rfl k) ?_
  refine own_go (B := T2.setTop (mkF m 18 #[.val (.ref (A 10))] [(.int ((9 : Int32) <<< ((4 : Int32) &&& 31)))])) (fun _ k => XS.icmpYes X2.here hx rfl (pc0 := 11) (pc' := 18) rfl (hb hby d1_11) rfl (by decide) (by decide) (by decide) k) ?_
  refine own_go (B := T2.setTop (mkF m 19 #[.val (.ref (A 10))] [(.ref (A 10)), (.int ((9 : Int32) <<< ((4 : Int32) &&& 31)))])) (fun _ k => XS.aloadN X2.here hx rfl (hb hby d1_18) rfl rfl k) ?_
  obtain ⟨T3, X3, e3, st3⟩ := getF X2 hx hZ hown (host := "") (Or.inl (hw _ (List.mem_of_getElem? (i := 11) rfl))) Via.refl e2 (F_SUBACK_flags.ext x0) (g := (mkF m 19 #[.val (.ref (A 10))] [(.ref (A 10)), (.int ((9 : Int32) <<< ((4 : Int32) &&& 31)))])) rfl rfl (hb hby d1_19)
  refine own_go (B := T3.setTop (mkF m 22 #[.val (.ref (A 10))] [(.int (0 : Int32)), (.int ((9 : Int32) <<< ((4 : Int32) &&& 31)))])) st3 ?_
  refine own_go (B := T3.setTop (mkF m 23 #[.val (.ref (A 10))] [(.int (((9 : Int32) <<< ((4 : Int32) &&& 31)) ||| (0 : Int32)))])) (fun _ k => XT.ior X3.here hx rfl (hb hby d1_22) rfl k) ?_
  exact own_ret X3 hx (t := .int) hrt rfl (Or.inl ⟨rfl, by simp, _, rfl⟩) (hb hby d1_23) hlk ⟨(congrArg (fun z => some (Value.int z)) (by decide +kernel : (((9 : Int32) <<< ((4 : Int32) &&& 31)) ||| (0 : Int32)) = (144 : Int32))), N0, e3⟩ (by decide) (by decide)
set_option maxRecDepth 65536 in
set_option maxHeartbeats 40000000 in
theorem rm2_8 (l : Launch) (Z : State) (a0 : Array Value) (hw : ∀ d ∈ tables_1, d.before a0 Z = true) (ws : List Jvm.Cond)  (A : Nat → Addr) (hW : own_W Z A) (h0 : Heap) (x0 : Ext Z.heap h0)  :
    own_Met l Z (⟨"com/example/ferrybus/ferrybus/codec/PacketType", "of", "(I)Lcom/example/ferrybus/ferrybus/codec/PacketType;"⟩ : MethodName) prog_32_method_4_code 1 (some (.object "com/example/ferrybus/ferrybus/codec/PacketType")) ws ({ frames := 0, cells := 0, slots := 0, locals := 0 } : Room) #[(.int (144 : Int32))] h0 (fun v_ h_ L_ => v_ = some (.ref (A 10)) ∧ Fr Z.heap.size L_ ∧ h_ = h0) := by
  refine own_body (plainFor_of_name pn_1) fun p e s m below meth c s₁ hx hby hml hown hnm hlk hrt hZ X0 e0 => ?_
  have N0 := Fr.nil Z.heap.size
  have hW' := hW
  obtain ⟨-, -, -, -, -, -, -, -, -, -, -, -, -, -, -, -, -, -, -, -, -, -, -, -, -, -, -, -, -, -, S_BY_VALUE, V_BY_VALUE, -, -, -, -, -, -, -, -, -, -, -, -, -, -, -, -, -, -, -, -, -, -, -, -, -, -, -, -, -, -⟩ := hW'
  refine own_go (B := s₁.setTop (mkF m 0 #[.val (.int (144 : Int32))] [])) (fun t k => castTop (ef_2 m (144 : Int32)) k) ?_
  obtain ⟨T1, X1, e1, st1⟩ := getS2 X0 hx hZ hown (host := "") (Or.inl (hw _ (List.mem_of_getElem? (i := 16) rfl))) Via.refl e0 (S_BY_VALUE.ext x0) (g := (mkF m 0 #[.val (.int (144 : Int32))] [])) rfl (hb hby d2_0)
  refine own_go (B := T1.setTop (mkF m 3 #[.val (.int (144 : Int32))] [(.ref (A 15))])) st1 ?_
  refine own_go (B := T1.setTop (mkF m 4 #[.val (.int (144 : Int32))] [(.int (144 : Int32)), (.ref (A 15))])) (fun _ k => XS.iloadN X1.here hx rfl (hb hby d2_3) rfl k) ?_
  refine own_go (B := T1.setTop (mkF m 5 #[.val (.int (144 : Int32))] [(.int (4 : Int32)), (.int (144 : Int32)), (.ref (A 15))])) (fun _ k => XT.iconstV X1.here hx rfl (4 : Int32) (hb hby d2_4) rfl k) ?_
  refine own_go (B := T1.setTop (mkF m 6 #[.val (.int (144 : Int32))] [(.int (((144 : Int32).toUInt32 >>> ((4 : Int32) &&& 31).toUInt32).toInt32)), (.ref (A 15))])) (fun _ k => XT.iushr X1.here hx rfl (hb hby d2_5) rfl k) ?_
  obtain ⟨k3, V3⟩ := id V_BY_VALUE
  obtain ⟨cl2, Ar2, q2a, q2b, q2c, q2d, q2e⟩ := id (V3.ext x0)
  have i2 := inb_of (j := (((144 : Int32).toUInt32 >>> ((4 : Int32) &&& 31).toUInt32).toInt32)) q2b ⟨by decide +kernel, by decide +kernel⟩
  refine own_go (B := T1.setTop (mkF m 7 #[.val (.int (144 : Int32))] [(.ref (A 10))])) (fun _ k => X1.aaload hx (j := (((144 : Int32).toUInt32 >>> ((4 : Int32) &&& 31).toUInt32).toInt32)) (v := (.ref (A 10))) (by rw [e1]; exact Ar2.1) (State.isArrayOf_alike hZ.alike Ar2.2.1) rfl Ar2.2.2 i2 (Has.at q2d i2 rfl) (g := (mkF m 6 #[.val (.int (144 : Int32))] [(.int (((144 : Int32).toUInt32 >>> ((4 : Int32) &&& 31).toUInt32).toInt32)), (.ref (A 15))])) rfl rfl (hb hby d2_6) _ k) ?_
  exact own_ret X1 hx (t := (.object "com/example/ferrybus/ferrybus/codec/PacketType")) hrt rfl (Or.inr (Or.inr (Or.inr (Or.inr ⟨rfl, rfl, rfl⟩)))) (hb hby d2_7) hlk ⟨rfl, N0, e1⟩ (by decide) (by decide)
set_option maxRecDepth 65536 in
set_option maxHeartbeats 40000000 in
theorem rm3_8 (l : Launch) (Z : State) (a0 : Array Value) (hw : ∀ d ∈ tables_1, d.before a0 Z = true) (ws : List Jvm.Cond)  (A : Nat → Addr) (hW : own_W Z A) (h0 : Heap) (x0 : Ext Z.heap h0)  :
    own_Met l Z (⟨"com/example/ferrybus/ferrybus/codec/PacketType", "allows", "(I)Z"⟩ : MethodName) prog_32_method_5_code 2 (some .boolean) ws ({ frames := 0, cells := 0, slots := 0, locals := 0 } : Room) #[(.ref (A 10)), (.int ((144 : Int32) &&& (15 : Int32)))] h0 (fun v_ h_ L_ => v_ = some (.int (1 : Int32)) ∧ Fr Z.heap.size L_ ∧ h_ = h0) := by
  refine own_body (plainFor_of_name pn_1) fun p e s m below meth c s₁ hx hby hml hown hnm hlk hrt hZ X0 e0 => ?_
  have N0 := Fr.nil Z.heap.size
  have hW' := hW
  obtain ⟨-, -, -, -, -, -, -, -, -, -, -, -, -, -, -, -, -, -, -, -, -, -, -, -, -, -, -, -, -, -, -, -, -, -, -, -, -, -, -, -, -, -, -, -, -, -, -, -, -, -, -, -, -, F_SUBACK_flags, -, -, -, -, -, -, -, -⟩ := hW'
  refine own_go (B := s₁.setTop (mkF m 0 #[.val (.ref (A 10)), .val (.int ((144 : Int32) &&& (15 : Int32)))] [])) (fun t k => castTop (ef_3 m (A 10) ((144 : Int32) &&& (15 : Int32))) k) ?_
  refine own_go (B := s₁.setTop (mkF m 1 #[.val (.ref (A 10)), .val (.int ((144 : Int32) &&& (15 : Int32)))] [(.ref (A 10))])) (fun _ k => XS.aloadN X0.here hx rfl (hb hby d3_0) rfl rfl k) ?_
  obtain ⟨T1, X1, e1, st1⟩ := getF X0 hx hZ hown (host := "") (Or.inl (hw _ (List.mem_of_getElem? (i := 11) rfl))) Via.refl e0 (F_SUBACK_flags.ext x0) (g := (mkF m 1 #[.val (.ref (A 10)), .val (.int ((144 : Int32) &&& (15 : Int32)))] [(.ref (A 10))])) rfl rfl (hb hby d3_1)
  refine own_go (B := T1.setTop (mkF m 4 #[.val (.ref (A 10)), .val (.int ((144 : Int32) &&& (15 : Int32)))] [(.int (0 : Int32))])) st1 ?_
  refine own_go (B := T1.setTop (mkF m 5 #[.val (.ref (A 10)), .val (.int ((144 : Int32) &&& (15 : Int32)))] [(.int (-1 : Int32)), (.int (0 : Int32))])) (fun _ k => XT.iconstV X1.here hx rfl (-1 : Int32) (hb hby d3_4) rfl k) ?_
  refine own_go (B := T1.setTop (mkF m 8 #[.val (.ref (A 10)), .val (.int ((144 : Int32) &&& (15 : Int32)))] [])) (fun _ k => XS.icmpNo X1.here hx rfl (hb hby d3_5) rfl (by decide) k) ?_
  refine own_go (B := T1.setTop (mkF m 9 #[.val (.ref (A 10)), .val (.int ((144 : Int32) &&& (15 : Int32)))] [(.ref (A 10))])) (fun _ k => XS.aloadN X1.here hx rfl (hb hby d3_8) rfl rfl k) ?_
  obtain ⟨T2, X2, e2, st2⟩ := getF X1 hx hZ hown (host := "") (Or.inl (hw _ (List.mem_of_getElem? (i := 11) rfl))) Via.refl e1 (F_SUBACK_flags.ext x0) (g := (mkF m 9 #[.val (.ref (A 10)), .val (.int ((144 : Int32) &&& (15 : Int32)))] [(.ref (A 10))])) rfl rfl (hb hby d3_9)
  refine own_go (B := T2.setTop (mkF m 12 #[.val (.ref (A 10)), .val (.int ((144 : Int32) &&& (15 : Int32)))] [(.int (0 : Int32))])) st2 ?_
  refine own_go (B := T2.setTop (mkF m 13 #[.val (.ref (A 10)), .val (.int ((144 : Int32) &&& (15 : Int32)))] [(.int ((144 : Int32) &&& (15 : Int32))), (.int (0 : Int32))])) (fun _ k => XS.iloadN X2.here hx rfl (hb hby d3_12) rfl k) ?_
  refine own_go (B := T2.setTop (mkF m 16 #[.val (.ref (A 10)), .val (.int ((144 : Int32) &&& (15 : Int32)))] [])) (fun _ k => XS.icmpNo X2.here hx rfl (hb hby d3_13) rfl (by decide +kernel) k) ?_
  refine own_go (B := T2.setTop (mkF m 17 #[.val (.ref (A 10)), .val (.int ((144 : Int32) &&& (15 : Int32)))] [(.int (1 : Int32))])) (fun _ k => XT.iconstV X2.here hx rfl (1 : Int32) (hb hby d3_16) rfl k) ?_
  refine own_go (B := T2.setTop (mkF m 21 #[.val (.ref (A 10)), .val (.int ((144 : Int32) &&& (15 : Int32)))] [(.int (1 : Int32))])) (fun _ k => XS.goto X2.here hx rfl (pc0 := 17) (pc' := 21) rfl (hb hby d3_17) (by decide) (by decide) k) ?_
  exact own_ret X2 hx (t := .boolean) hrt rfl (Or.inl ⟨rfl, by simp, _, rfl⟩) (hb hby d3_21) hlk ⟨rfl, N0, e2⟩ (by decide) (by decide)
set_option maxRecDepth 65536 in
set_option maxHeartbeats 40000000 in
theorem rm1_9 (l : Launch) (Z : State) (a0 : Array Value) (hw : ∀ d ∈ tables_1, d.before a0 Z = true) (ws : List Jvm.Cond)  (A : Nat → Addr) (hW : own_W Z A) (h0 : Heap) (x0 : Ext Z.heap h0)  :
    own_Met l Z (⟨"com/example/ferrybus/ferrybus/codec/PacketType", "firstByte", "()I"⟩ : MethodName) prog_32_method_6_code 1 (some .int) ws ({ frames := 0, cells := 0, slots := 0, locals := 0 } : Room) #[(.ref (A 14))] h0 (fun v_ h_ L_ => v_ = some (.int (162 : Int32)) ∧ Fr Z.heap.size L_ ∧ h_ = h0) := by
  refine own_body (plainFor_of_name pn_1) fun p e s m below meth c s₁ hx hby hml hown hnm hlk hrt hZ X0 e0 => ?_
  have N0 := Fr.nil Z.heap.size
  have hW' := hW
  obtain ⟨-, -, -, -, -, -, -, -, -, -, -, -, -, -, -, -, -, -, -, -, -, -, -, -, -, -, -, -, -, -, -, -, -, -, -, -, -, -, -, -, -, -, -, -, -, -, -, -, -, -, -, -, -, -, -, -, -, -, -, -, F_UNSUBSCRIBE_value, F_UNSUBSCRIBE_flags⟩ := hW'
  refine own_go (B := s₁.setTop (mkF m 0 #[.val (.ref (A 14))] [])) (fun t k => castTop (ef_1 m (A 14)) k) ?_
  refine own_go (B := s₁.setTop (mkF m 1 #[.val (.ref (A 14))] [(.ref (A 14))])) (fun _ k => XS.aloadN X0.here hx rfl (hb hby d1_0) rfl rfl k) ?_
  obtain ⟨T1, X1, e1, st1⟩ := getF X0 hx hZ hown (host := "") (Or.inl (hw _ (List.mem_of_getElem? (i := 9) rfl))) Via.refl e0 (F_UNSUBSCRIBE_value.ext x0) (g := (mkF m 1 #[.val (.ref (A 14))] [(.ref (A 14))])) rfl rfl (hb hby d1_1)
  refine own_go (B := T1.setTop (mkF m 4 #[.val (.ref (A 14))] [(.int (10 : Int32))])) st1 ?_
  refine own_go (B := T1.setTop (mkF m 5 #[.val (.ref (A 14))] [(.int (4 : Int32)), (.int (10 : Int32))])) (fun _ k => XT.iconstV X1.here hx rfl (4 : Int32) (hb hby d1_4) rfl k) ?_
  refine own_go (B := T1.setTop (mkF m 6 #[.val (.ref (A 14))] [(.int ((10 : Int32) <<< ((4 : Int32) &&& 31)))])) (fun _ k => XT.ishl X1.here hx rfl (hb hby d1_5) rfl k) ?_
  refine own_go (B := T1.setTop (mkF m 7 #[.val (.ref (A 14))] [(.ref (A 14)), (.int ((10 : Int32) <<< ((4 : Int32) &&& 31)))])) (fun _ k => XS.aloadN X1.here hx rfl (hb hby d1_6) rfl rfl k) ?_
  obtain ⟨T2, X2, e2, st2⟩ := getF X1 hx hZ hown (host := "") (Or.inl (hw _ (List.mem_of_getElem? (i := 11) rfl))) Via.refl e1 (F_UNSUBSCRIBE_flags.ext x0) (g := (mkF m 7 #[.val (.ref (A 14))] [(.ref (A 14)), (.int ((10 : Int32) <<< ((4 : Int32) &&& 31)))])) rfl rfl (hb hby d1_7)
  refine own_go (B := T2.setTop (mkF m 10 #[.val (.ref (A 14))] [(.int (2 : Int32)), (.int ((10 : Int32) <<< ((4 : Int32) &&& 31)))])) st2 ?_
  refine own_go (B := T2.setTop (mkF m 11 #[.val (.ref (A 14))] [(.int (-1 : Int32)), (.int (2 : Int32)), (.int ((10 : Int32) <<< ((4 : Int32) &&& 31)))])) (fun _ k => XT.iconstV X2.here hx rfl (-1 : Int32) (hb hby d1_10) rfl k) ?_
  refine own_go (B := T2.setTop (mkF m 18 #[.val (.ref (A 14))] [(.int ((10 : Int32) <<< ((4 : Int32) &&& 31)))])) (fun _ k => XS.icmpYes X2.here hx rfl (pc0 := 11) (pc' := 18) rfl (hb hby d1_11) rfl (by decide) (by decide) (by decide) k) ?_
  refine own_go (B := T2.setTop (mkF m 19 #[.val (.ref (A 14))] [(.ref (A 14)), (.int ((10 : Int32) <<< ((4 : Int32) &&& 31)))])) (fun _ k => XS.aloadN X2.here hx rfl (hb hby d1_18) rfl rfl k) ?_
  obtain ⟨T3, X3, e3, st3⟩ := getF X2 hx hZ hown (host := "") (Or.inl (hw _ (List.mem_of_getElem? (i := 11) rfl))) Via.refl e2 (F_UNSUBSCRIBE_flags.ext x0) (g := (mkF m 19 #[.val (.ref (A 14))] [(.ref (A 14)), (.int ((10 : Int32) <<< ((4 : Int32) &&& 31)))])) rfl rfl (hb hby d1_19)
  refine own_go (B := T3.setTop (mkF m 22 #[.val (.ref (A 14))] [(.int (2 : Int32)), (.int ((10 : Int32) <<< ((4 : Int32) &&& 31)))])) st3 ?_
  refine own_go (B := T3.setTop (mkF m 23 #[.val (.ref (A 14))] [(.int (((10 : Int32) <<< ((4 : Int32) &&& 31)) ||| (2 : Int32)))])) (fun _ k => XT.ior X3.here hx rfl (hb hby d1_22) rfl k) ?_
  exact own_ret X3 hx (t := .int) hrt rfl (Or.inl ⟨rfl, by simp, _, rfl⟩) (hb hby d1_23) hlk ⟨(congrArg (fun z => some (Value.int z)) (by decide +kernel : (((10 : Int32) <<< ((4 : Int32) &&& 31)) ||| (2 : Int32)) = (162 : Int32))), N0, e3⟩ (by decide) (by decide)
set_option maxRecDepth 65536 in
set_option maxHeartbeats 40000000 in
theorem rm2_9 (l : Launch) (Z : State) (a0 : Array Value) (hw : ∀ d ∈ tables_1, d.before a0 Z = true) (ws : List Jvm.Cond)  (A : Nat → Addr) (hW : own_W Z A) (h0 : Heap) (x0 : Ext Z.heap h0)  :
    own_Met l Z (⟨"com/example/ferrybus/ferrybus/codec/PacketType", "of", "(I)Lcom/example/ferrybus/ferrybus/codec/PacketType;"⟩ : MethodName) prog_32_method_4_code 1 (some (.object "com/example/ferrybus/ferrybus/codec/PacketType")) ws ({ frames := 0, cells := 0, slots := 0, locals := 0 } : Room) #[(.int (162 : Int32))] h0 (fun v_ h_ L_ => v_ = some (.ref (A 14)) ∧ Fr Z.heap.size L_ ∧ h_ = h0) := by
  refine own_body (plainFor_of_name pn_1) fun p e s m below meth c s₁ hx hby hml hown hnm hlk hrt hZ X0 e0 => ?_
  have N0 := Fr.nil Z.heap.size
  have hW' := hW
  obtain ⟨-, -, -, -, -, -, -, -, -, -, -, -, -, -, -, -, -, -, -, -, -, -, -, -, -, -, -, -, -, -, S_BY_VALUE, V_BY_VALUE, -, -, -, -, -, -, -, -, -, -, -, -, -, -, -, -, -, -, -, -, -, -, -, -, -, -, -, -, -, -⟩ := hW'
  refine own_go (B := s₁.setTop (mkF m 0 #[.val (.int (162 : Int32))] [])) (fun t k => castTop (ef_2 m (162 : Int32)) k) ?_
  obtain ⟨T1, X1, e1, st1⟩ := getS2 X0 hx hZ hown (host := "") (Or.inl (hw _ (List.mem_of_getElem? (i := 16) rfl))) Via.refl e0 (S_BY_VALUE.ext x0) (g := (mkF m 0 #[.val (.int (162 : Int32))] [])) rfl (hb hby d2_0)
  refine own_go (B := T1.setTop (mkF m 3 #[.val (.int (162 : Int32))] [(.ref (A 15))])) st1 ?_
  refine own_go (B := T1.setTop (mkF m 4 #[.val (.int (162 : Int32))] [(.int (162 : Int32)), (.ref (A 15))])) (fun _ k => XS.iloadN X1.here hx rfl (hb hby d2_3) rfl k) ?_
  refine own_go (B := T1.setTop (mkF m 5 #[.val (.int (162 : Int32))] [(.int (4 : Int32)), (.int (162 : Int32)), (.ref (A 15))])) (fun _ k => XT.iconstV X1.here hx rfl (4 : Int32) (hb hby d2_4) rfl k) ?_
  refine own_go (B := T1.setTop (mkF m 6 #[.val (.int (162 : Int32))] [(.int (((162 : Int32).toUInt32 >>> ((4 : Int32) &&& 31).toUInt32).toInt32)), (.ref (A 15))])) (fun _ k => XT.iushr X1.here hx rfl (hb hby d2_5) rfl k) ?_
  obtain ⟨k3, V3⟩ := id V_BY_VALUE
  obtain ⟨cl2, Ar2, q2a, q2b, q2c, q2d, q2e⟩ := id (V3.ext x0)
  have i2 := inb_of (j := (((162 : Int32).toUInt32 >>> ((4 : Int32) &&& 31).toUInt32).toInt32)) q2b ⟨by decide +kernel, by decide +kernel⟩
  refine own_go (B := T1.setTop (mkF m 7 #[.val (.int (162 : Int32))] [(.ref (A 14))])) (fun _ k => X1.aaload hx (j := (((162 : Int32).toUInt32 >>> ((4 : Int32) &&& 31).toUInt32).toInt32)) (v := (.ref (A 14))) (by rw [e1]; exact Ar2.1) (State.isArrayOf_alike hZ.alike Ar2.2.1) rfl Ar2.2.2 i2 (Has.at q2d i2 rfl) (g := (mkF m 6 #[.val (.int (162 : Int32))] [(.int (((162 : Int32).toUInt32 >>> ((4 : Int32) &&& 31).toUInt32).toInt32)), (.ref (A 15))])) rfl rfl (hb hby d2_6) _ k) ?_
  exact own_ret X1 hx (t := (.object "com/example/ferrybus/ferrybus/codec/PacketType")) hrt rfl (Or.inr (Or.inr (Or.inr (Or.inr ⟨rfl, rfl, rfl⟩)))) (hb hby d2_7) hlk ⟨rfl, N0, e1⟩ (by decide) (by decide)
set_option maxRecDepth 65536 in
set_option maxHeartbeats 40000000 in
theorem rm3_9 (l : Launch) (Z : State) (a0 : Array Value) (hw : ∀ d ∈ tables_1, d.before a0 Z = true) (ws : List Jvm.Cond)  (A : Nat → Addr) (hW : own_W Z A) (h0 : Heap) (x0 : Ext Z.heap h0)  :
    own_Met l Z (⟨"com/example/ferrybus/ferrybus/codec/PacketType", "allows", "(I)Z"⟩ : MethodName) prog_32_method_5_code 2 (some .boolean) ws ({ frames := 0, cells := 0, slots := 0, locals := 0 } : Room) #[(.ref (A 14)), (.int ((162 : Int32) &&& (15 : Int32)))] h0 (fun v_ h_ L_ => v_ = some (.int (1 : Int32)) ∧ Fr Z.heap.size L_ ∧ h_ = h0) := by
  refine own_body (plainFor_of_name pn_1) fun p e s m below meth c s₁ hx hby hml hown hnm hlk hrt hZ X0 e0 => ?_
  have N0 := Fr.nil Z.heap.size
  have hW' := hW
  obtain ⟨-, -, -, -, -, -, -, -, -, -, -, -, -, -, -, -, -, -, -, -, -, -, -, -, -, -, -, -, -, -, -, -, -, -, -, -, -, -, -, -, -, -, -, -, -, -, -, -, -, -, -, -, -, -, -, -, -, -, -, -, -, F_UNSUBSCRIBE_flags⟩ := hW'
  refine own_go (B := s₁.setTop (mkF m 0 #[.val (.ref (A 14)), .val (.int ((162 : Int32) &&& (15 : Int32)))] [])) (fun t k => castTop (ef_3 m (A 14) ((162 : Int32) &&& (15 : Int32))) k) ?_
  refine own_go (B := s₁.setTop (mkF m 1 #[.val (.ref (A 14)), .val (.int ((162 : Int32) &&& (15 : Int32)))] [(.ref (A 14))])) (fun _ k => XS.aloadN X0.here hx rfl (hb hby d3_0) rfl rfl k) ?_
  obtain ⟨T1, X1, e1, st1⟩ := getF X0 hx hZ hown (host := "") (Or.inl (hw _ (List.mem_of_getElem? (i := 11) rfl))) Via.refl e0 (F_UNSUBSCRIBE_flags.ext x0) (g := (mkF m 1 #[.val (.ref (A 14)), .val (.int ((162 : Int32) &&& (15 : Int32)))] [(.ref (A 14))])) rfl rfl (hb hby d3_1)
  refine own_go (B := T1.setTop (mkF m 4 #[.val (.ref (A 14)), .val (.int ((162 : Int32) &&& (15 : Int32)))] [(.int (2 : Int32))])) st1 ?_
  refine own_go (B := T1.setTop (mkF m 5 #[.val (.ref (A 14)), .val (.int ((162 : Int32) &&& (15 : Int32)))] [(.int (-1 : Int32)), (.int (2 : Int32))])) (fun _ k => XT.iconstV X1.here hx rfl (-1 : Int32) (hb hby d3_4) rfl k) ?_
  refine own_go (B := T1.setTop (mkF m 8 #[.val (.ref (A 14)), .val (.int ((162 : Int32) &&& (15 : Int32)))] [])) (fun _ k => XS.icmpNo X1.here hx rfl (hb hby d3_5) rfl (by decide) k) ?_
  refine own_go (B := T1.setTop (mkF m 9 #[.val (.ref (A 14)), .val (.int ((162 : Int32) &&& (15 : Int32)))] [(.ref (A 14))])) (fun _ k => XS.aloadN X1.here hx rfl (hb hby d3_8) rfl rfl k) ?_
  obtain ⟨T2, X2, e2, st2⟩ := getF X1 hx hZ hown (host := "") (Or.inl (hw _ (List.mem_of_getElem? (i := 11) rfl))) Via.refl e1 (F_UNSUBSCRIBE_flags.ext x0) (g := (mkF m 9 #[.val (.ref (A 14)), .val (.int ((162 : Int32) &&& (15 : Int32)))] [(.ref (A 14))])) rfl rfl (hb hby d3_9)
  refine own_go (B := T2.setTop (mkF m 12 #[.val (.ref (A 14)), .val (.int ((162 : Int32) &&& (15 : Int32)))] [(.int (2 : Int32))])) st2 ?_
  refine own_go (B := T2.setTop (mkF m 13 #[.val (.ref (A 14)), .val (.int ((162 : Int32) &&& (15 : Int32)))] [(.int ((162 : Int32) &&& (15 : Int32))), (.int (2 : Int32))])) (fun _ k => XS.iloadN X2.here hx rfl (hb hby d3_12) rfl k) ?_
  refine own_go (B := T2.setTop (mkF m 16 #[.val (.ref (A 14)), .val (.int ((162 : Int32) &&& (15 : Int32)))] [])) (fun _ k => XS.icmpNo X2.here hx rfl (hb hby d3_13) rfl (by decide +kernel) k) ?_
  refine own_go (B := T2.setTop (mkF m 17 #[.val (.ref (A 14)), .val (.int ((162 : Int32) &&& (15 : Int32)))] [(.int (1 : Int32))])) (fun _ k => XT.iconstV X2.here hx rfl (1 : Int32) (hb hby d3_16) rfl k) ?_
  refine own_go (B := T2.setTop (mkF m 21 #[.val (.ref (A 14)), .val (.int ((162 : Int32) &&& (15 : Int32)))] [(.int (1 : Int32))])) (fun _ k => XS.goto X2.here hx rfl (pc0 := 17) (pc' := 21) rfl (hb hby d3_17) (by decide) (by decide) k) ?_
  exact own_ret X2 hx (t := .boolean) hrt rfl (Or.inl ⟨rfl, by simp, _, rfl⟩) (hb hby d3_21) hlk ⟨rfl, N0, e2⟩ (by decide) (by decide)
set_option maxRecDepth 65536 in
set_option maxHeartbeats 40000000 in
theorem rm1_10 (l : Launch) (Z : State) (a0 : Array Value) (hw : ∀ d ∈ tables_1, d.before a0 Z = true) (ws : List Jvm.Cond)  (A : Nat → Addr) (hW : own_W Z A) (h0 : Heap) (x0 : Ext Z.heap h0)  :
    own_Met l Z (⟨"com/example/ferrybus/ferrybus/codec/PacketType", "firstByte", "()I"⟩ : MethodName) prog_32_method_6_code 1 (some .int) ws ({ frames := 0, cells := 0, slots := 0, locals := 0 } : Room) #[(.ref (A 9))] h0 (fun v_ h_ L_ => v_ = some (.int (176 : Int32)) ∧ Fr Z.heap.size L_ ∧ h_ = h0) := by
  refine own_body (plainFor_of_name pn_1) fun p e s m below meth c s₁ hx hby hml hown hnm hlk hrt hZ X0 e0 => ?_
  have N0 := Fr.nil Z.heap.size
  have hW' := hW
  obtain ⟨-, -, -, -, -, -, -, -, -, -, -, -, -, -, -, -, -, -, -, -, -, -, -, -, -, -, -, -, -, -, -, -, -, -, -, -, -, -, -, -, -, -, -, -, -, -, -, -, -, -, F_UNSUBACK_value, F_UNSUBACK_flags, -, -, -, -, -, -, -, -, -, -⟩ := hW'
  refine own_go (B := s₁.setTop (mkF m 0 #[.val (.ref (A 9))] [])) (fun t k => castTop (ef_1 m (A 9)) k) ?_
  refine own_go (B := s₁.setTop (mkF m 1 #[.val (.ref (A 9))] [(.ref (A 9))])) (fun _ k => XS.aloadN X0.here hx rfl (hb hby d1_0) rfl rfl k) ?_
  obtain ⟨T1, X1, e1, st1⟩ := getF X0 hx hZ hown (host := "") (Or.inl (hw _ (List.mem_of_getElem? (i := 9) rfl))) Via.refl e0 (F_UNSUBACK_value.ext x0) (g := (mkF m 1 #[.val (.ref (A 9))] [(.ref (A 9))])) rfl rfl (hb hby d1_1)
  refine own_go (B := T1.setTop (mkF m 4 #[.val (.ref (A 9))] [(.int (11 : Int32))])) st1 ?_
  refine own_go (B := T1.setTop (mkF m 5 #[.val (.ref (A 9))] [(.int (4 : Int32)), (.int (11 : Int32))])) (fun _ k => XT.iconstV X1.here hx rfl (4 : Int32) (hb hby d1_4) rfl k) ?_
  refine own_go (B := T1.setTop (mkF m 6 #[.val (.ref (A 9))] [(.int ((11 : Int32) <<< ((4 : Int32) &&& 31)))])) (fun _ k => XT.ishl X1.here hx rfl (hb hby d1_5) rfl k) ?_
  refine own_go (B := T1.setTop (mkF m 7 #[.val (.ref (A 9))] [(.ref (A 9)), (.int ((11 : Int32) <<< ((4 : Int32) &&& 31)))])) (fun _ k => XS.aloadN X1.here hx rfl (hb hby d1_6) rfl rfl k) ?_
  obtain ⟨T2, X2, e2, st2⟩ := getF X1 hx hZ hown (host := "") (Or.inl (hw _ (List.mem_of_getElem? (i := 11) rfl))) Via.refl e1 (F_UNSUBACK_flags.ext x0) (g := (mkF m 7 #[.val (.ref (A 9))] [(.ref (A 9)), (.int ((11 : Int32) <<< ((4 : Int32) &&& 31)))])) rfl rfl (hb hby d1_7)
  refine own_go (B := T2.setTop (mkF m 10 #[.val (.ref (A 9))] [(.int (0 : Int32)), (.int ((11 : Int32) <<< ((4 : Int32) &&& 31)))])) st2 ?_
  refine own_go (B := T2.setTop (mkF m 11 #[.val (.ref (A 9))] [(.int (-1 : Int32)), (.int (0 : Int32)), (.int ((11 : Int32) <<< ((4 : Int32) &&& 31)))])) (fun _ k => XT.iconstV X2.here hx rfl (-1 : Int32) (hb hby d1_10) rfl k) ?_
  refine own_go (B := T2.setTop (mkF m 18 #[.val (.ref (A 9))] [(.int ((11 : Int32) <<< ((4 : Int32) &&& 31)))])) (fun _ k => XS.icmpYes X2.here hx rfl (pc0 := 11) (pc' := 18) rfl (hb hby d1_11) rfl (by decide) (by decide) (by decide) k) ?_
  refine own_go (B := T2.setTop (mkF m 19 #[.val (.ref (A 9))] [(.ref (A 9)), (.int ((11 : Int32) <<< ((4 : Int32) &&& 31)))])) (fun _ k => XS.aloadN X2.here hx rfl (hb hby d1_18) rfl rfl k) ?_
  obtain ⟨T3, X3, e3, st3⟩ := getF X2 hx hZ hown (host := "") (Or.inl (hw _ (List.mem_of_getElem? (i := 11) rfl))) Via.refl e2 (F_UNSUBACK_flags.ext x0) (g := (mkF m 19 #[.val (.ref (A 9))] [(.ref (A 9)), (.int ((11 : Int32) <<< ((4 : Int32) &&& 31)))])) rfl rfl (hb hby d1_19)
  refine own_go (B := T3.setTop (mkF m 22 #[.val (.ref (A 9))] [(.int (0 : Int32)), (.int ((11 : Int32) <<< ((4 : Int32) &&& 31)))])) st3 ?_
  refine own_go (B := T3.setTop (mkF m 23 #[.val (.ref (A 9))] [(.int (((11 : Int32) <<< ((4 : Int32) &&& 31)) ||| (0 : Int32)))])) (fun _ k => XT.ior X3.here hx rfl (hb hby d1_22) rfl k) ?_
  exact own_ret X3 hx (t := .int) hrt rfl (Or.inl ⟨rfl, by simp, _, rfl⟩) (hb hby d1_23) hlk ⟨(congrArg (fun z => some (Value.int z)) (by decide +kernel : (((11 : Int32) <<< ((4 : Int32) &&& 31)) ||| (0 : Int32)) = (176 : Int32))), N0, e3⟩ (by decide) (by decide)
set_option maxRecDepth 65536 in
set_option maxHeartbeats 40000000 in
theorem rm2_10 (l : Launch) (Z : State) (a0 : Array Value) (hw : ∀ d ∈ tables_1, d.before a0 Z = true) (ws : List Jvm.Cond)  (A : Nat → Addr) (hW : own_W Z A) (h0 : Heap) (x0 : Ext Z.heap h0)  :
    own_Met l Z (⟨"com/example/ferrybus/ferrybus/codec/PacketType", "of", "(I)Lcom/example/ferrybus/ferrybus/codec/PacketType;"⟩ : MethodName) prog_32_method_4_code 1 (some (.object "com/example/ferrybus/ferrybus/codec/PacketType")) ws ({ frames := 0, cells := 0, slots := 0, locals := 0 } : Room) #[(.int (176 : Int32))] h0 (fun v_ h_ L_ => v_ = some (.ref (A 9)) ∧ Fr Z.heap.size L_ ∧ h_ = h0) := by
  refine own_body (plainFor_of_name pn_1) fun p e s m below meth c s₁ hx hby hml hown hnm hlk hrt hZ X0 e0 => ?_
  have N0 := Fr.nil Z.heap.size
  have hW' := hW
  obtain ⟨-, -, -, -, -, -, -, -, -, -, -, -, -, -, -, -, -, -, -, -, -, -, -, -, -, -, -, -, -, -, S_BY_VALUE, V_BY_VALUE, -, -, -, -, -, -, -, -, -, -, -, -, -, -, -, -, -, -, -, -, -, -, -, -, -, -, -, -, -, -⟩ := hW'
  refine own_go (B := s₁.setTop (mkF m 0 #[.val (.int (176 : Int32))] [])) (fun t k => castTop (ef_2 m (176 : Int32)) k) ?_
  obtain ⟨T1, X1, e1, st1⟩ := getS2 X0 hx hZ hown (host := "") (Or.inl (hw _ (List.mem_of_getElem? (i := 16) rfl))) Via.refl e0 (S_BY_VALUE.ext x0) (g := (mkF m 0 #[.val (.int (176 : Int32))] [])) rfl (hb hby d2_0)
  refine own_go (B := T1.setTop (mkF m 3 #[.val (.int (176 : Int32))] [(.ref (A 15))])) st1 ?_
  refine own_go (B := T1.setTop (mkF m 4 #[.val (.int (176 : Int32))] [(.int (176 : Int32)), (.ref (A 15))])) (fun _ k => XS.iloadN X1.here hx rfl (hb hby d2_3) rfl k) ?_
  refine own_go (B := T1.setTop (mkF m 5 #[.val (.int (176 : Int32))] [(.int (4 : Int32)), (.int (176 : Int32)), (.ref (A 15))])) (fun _ k => XT.iconstV X1.here hx rfl (4 : Int32) (hb hby d2_4) rfl k) ?_
  refine own_go (B := T1.setTop (mkF m 6 #[.val (.int (176 : Int32))] [(.int (((176 : Int32).toUInt32 >>> ((4 : Int32) &&& 31).toUInt32).toInt32)), (.ref (A 15))])) (fun _ k => XT.iushr X1.here hx rfl (hb hby d2_5) rfl k) ?_
  obtain ⟨k3, V3⟩ := id V_BY_VALUE
  obtain ⟨cl2, Ar2, q2a, q2b, q2c, q2d, q2e⟩ := id (V3.ext x0)
  have i2 := inb_of (j := (((176 : Int32).toUInt32 >>> ((4 : Int32) &&& 31).toUInt32).toInt32)) q2b ⟨by decide +kernel, by decide +kernel⟩
  refine own_go (B := T1.setTop (mkF m 7 #[.val (.int (176 : Int32))] [(.ref (A 9))])) (fun _ k => X1.aaload hx (j := (((176 : Int32).toUInt32 >>> ((4 : Int32) &&& 31).toUInt32).toInt32)) (v := (.ref (A 9))) (by rw [e1]; exact Ar2.1) (State.isArrayOf_alike hZ.alike Ar2.2.1) rfl Ar2.2.2 i2 (Has.at q2d i2 rfl) (g := (mkF m 6 #[.val (.int (176 : Int32))] [(.int (((176 : Int32).toUInt32 >>> ((4 : Int32) &&& 31).toUInt32).toInt32)), (.ref (A 15))])) rfl rfl (hb hby d2_6) _ k) ?_
  exact own_ret X1 hx (t := (.object "com/example/ferrybus/ferrybus/codec/PacketType")) hrt rfl (Or.inr (Or.inr (Or.inr (Or.inr ⟨rfl, rfl, rfl⟩)))) (hb hby d2_7) hlk ⟨rfl, N0, e1⟩ (by decide) (by decide)
set_option maxRecDepth 65536 in
set_option maxHeartbeats 40000000 in
theorem rm3_10 (l : Launch) (Z : State) (a0 : Array Value) (hw : ∀ d ∈ tables_1, d.before a0 Z = true) (ws : List Jvm.Cond)  (A : Nat → Addr) (hW : own_W Z A) (h0 : Heap) (x0 : Ext Z.heap h0)  :
    own_Met l Z (⟨"com/example/ferrybus/ferrybus/codec/PacketType", "allows", "(I)Z"⟩ : MethodName) prog_32_method_5_code 2 (some .boolean) ws ({ frames := 0, cells := 0, slots := 0, locals := 0 } : Room) #[(.ref (A 9)), (.int ((176 : Int32) &&& (15 : Int32)))] h0 (fun v_ h_ L_ => v_ = some (.int (1 : Int32)) ∧ Fr Z.heap.size L_ ∧ h_ = h0) := by
  refine own_body (plainFor_of_name pn_1) fun p e s m below meth c s₁ hx hby hml hown hnm hlk hrt hZ X0 e0 => ?_
  have N0 := Fr.nil Z.heap.size
  have hW' := hW
  obtain ⟨-, -, -, -, -, -, -, -, -, -, -, -, -, -, -, -, -, -, -, -, -, -, -, -, -, -, -, -, -, -, -, -, -, -, -, -, -, -, -, -, -, -, -, -, -, -, -, -, -, -, -, F_UNSUBACK_flags, -, -, -, -, -, -, -, -, -, -⟩ := hW'
  refine own_go (B := s₁.setTop (mkF m 0 #[.val (.ref (A 9)), .val (.int ((176 : Int32) &&& (15 : Int32)))] [])) (fun t k => castTop (ef_3 m (A 9) ((176 : Int32) &&& (15 : Int32))) k) ?_
  refine own_go (B := s₁.setTop (mkF m 1 #[.val (.ref (A 9)), .val (.int ((176 : Int32) &&& (15 : Int32)))] [(.ref (A 9))])) (fun _ k => XS.aloadN X0.here hx rfl (hb hby d3_0) rfl rfl k) ?_
  obtain ⟨T1, X1, e1, st1⟩ := getF X0 hx hZ hown (host := "") (Or.inl (hw _ (List.mem_of_getElem? (i := 11) rfl))) Via.refl e0 (F_UNSUBACK_flags.ext x0) (g := (mkF m 1 #[.val (.ref (A 9)), .val (.int ((176 : Int32) &&& (15 : Int32)))] [(.ref (A 9))])) rfl rfl (hb hby d3_1)
  refine own_go (B := T1.setTop (mkF m 4 #[.val (.ref (A 9)), .val (.int ((176 : Int32) &&& (15 : Int32)))] [(.int (0 : Int32))])) st1 ?_
  refine own_go (B := T1.setTop (mkF m 5 #[.val (.ref (A 9)), .val (.int ((176 : Int32) &&& (15 : Int32)))] [(.int (-1 : Int32)), (.int (0 : Int32))])) (fun _ k => XT.iconstV X1.here hx rfl (-1 : Int32) (hb hby d3_4) rfl k) ?_
  refine own_go (B := T1.setTop (mkF m 8 #[.val (.ref (A 9)), .val (.int ((176 : Int32) &&& (15 : Int32)))] [])) (fun _ k => XS.icmpNo X1.here hx rfl (hb hby d3_5) rfl (by decide) k) ?_
  refine own_go (B := T1.setTop (mkF m 9 #[.val (.ref (A 9)), .val (.int ((176 : Int32) &&& (15 : Int32)))] [(.ref (A 9))])) (fun _ k => XS.aloadN X1.here hx rfl (hb hby d3_8) rfl rfl k) ?_
  obtain ⟨T2, X2, e2, st2⟩ := getF X1 hx hZ hown (host := "") (Or.inl (hw _ (List.mem_of_getElem? (i := 11) rfl))) Via.refl e1 (F_UNSUBACK_flags.ext x0) (g := (mkF m 9 #[.val (.ref (A 9)), .val (.int ((176 : Int32) &&& (15 : Int32)))] [(.ref (A 9))])) rfl rfl (hb hby d3_9)
  refine own_go (B := T2.setTop (mkF m 12 #[.val (.ref (A 9)), .val (.int ((176 : Int32) &&& (15 : Int32)))] [(.int (0 : Int32))])) st2 ?_
  refine own_go (B := T2.setTop (mkF m 13 #[.val (.ref (A 9)), .val (.int ((176 : Int32) &&& (15 : Int32)))] [(.int ((176 : Int32) &&& (15 : Int32))), (.int (0 : Int32))])) (fun _ k => XS.iloadN X2.here hx rfl (hb hby d3_12) rfl k) ?_
  refine own_go (B := T2.setTop (mkF m 16 #[.val (.ref (A 9)), .val (.int ((176 : Int32) &&& (15 : Int32)))] [])) (fun _ k => XS.icmpNo X2.here hx rfl (hb hby d3_13) rfl (by decide +kernel) k) ?_
  refine own_go (B := T2.setTop (mkF m 17 #[.val (.ref (A 9)), .val (.int ((176 : Int32) &&& (15 : Int32)))] [(.int (1 : Int32))])) (fun _ k => XT.iconstV X2.here hx rfl (1 : Int32) (hb hby d3_16) rfl k) ?_
  refine own_go (B := T2.setTop (mkF m 21 #[.val (.ref (A 9)), .val (.int ((176 : Int32) &&& (15 : Int32)))] [(.int (1 : Int32))])) (fun _ k => XS.goto X2.here hx rfl (pc0 := 17) (pc' := 21) rfl (hb hby d3_17) (by decide) (by decide) k) ?_
  exact own_ret X2 hx (t := .boolean) hrt rfl (Or.inl ⟨rfl, by simp, _, rfl⟩) (hb hby d3_21) hlk ⟨rfl, N0, e2⟩ (by decide) (by decide)
set_option maxRecDepth 65536 in
set_option maxHeartbeats 40000000 in
theorem rm1_11 (l : Launch) (Z : State) (a0 : Array Value) (hw : ∀ d ∈ tables_1, d.before a0 Z = true) (ws : List Jvm.Cond)  (A : Nat → Addr) (hW : own_W Z A) (h0 : Heap) (x0 : Ext Z.heap h0)  :
    own_Met l Z (⟨"com/example/ferrybus/ferrybus/codec/PacketType", "firstByte", "()I"⟩ : MethodName) prog_32_method_6_code 1 (some .int) ws ({ frames := 0, cells := 0, slots := 0, locals := 0 } : Room) #[(.ref (A 8))] h0 (fun v_ h_ L_ => v_ = some (.int (192 : Int32)) ∧ Fr Z.heap.size L_ ∧ h_ = h0) := by
  refine own_body (plainFor_of_name pn_1) fun p e s m below meth c s₁ hx hby hml hown hnm hlk hrt hZ X0 e0 => ?_
  have N0 := Fr.nil Z.heap.size
  have hW' := hW
  obtain ⟨-, -, -, -, -, -, -, -, -, -, -, -, -, -, -, -, -, -, -, -, -, -, -, -, -, -, -, -, -, -, -, -, -, -, -, -, -, -, -, -, -, -, -, -, -, -, -, -, F_PINGREQ_value, F_PINGREQ_flags, -, -, -, -, -, -, -, -, -, -, -, -⟩ := hW'
  refine own_go (B := s₁.setTop (mkF m 0 #[.val (.ref (A 8))] [])) (fun t k => castTop (ef_1 m (A 8)) k) ?_
  refine own_go (B := s₁.setTop (mkF m 1 #[.val (.ref (A 8))] [(.ref (A 8))])) (fun _ k => XS.aloadN X0.here hx rfl (hb hby d1_0) rfl rfl k) ?_
  obtain ⟨T1, X1, e1, st1⟩ := getF X0 hx hZ hown (host := "") (Or.inl (hw _ (List.mem_of_getElem? (i := 9) rfl))) Via.refl e0 (F_PINGREQ_value.ext x0) (g := (mkF m 1 #[.val (.ref (A 8))] [(.ref (A 8))])) rfl rfl (hb hby d1_1)
  refine own_go (B := T1.setTop (mkF m 4 #[.val (.ref (A 8))] [(.int (12 : Int32))])) st1 ?_
  refine own_go (B := T1.setTop (mkF m 5 #[.val (.ref (A 8))] [(.int (4 : Int32)), (.int (12 : Int32))])) (fun _ k => XT.iconstV X1.here hx rfl (4 : Int32) (hb hby d1_4) rfl k) ?_
  refine own_go (B := T1.setTop (mkF m 6 #[.val (.ref (A 8))] [(.int ((12 : Int32) <<< ((4 : Int32) &&& 31)))])) (fun _ k => XT.ishl X1.here hx rfl (hb hby d1_5) rfl k) ?_
  refine own_go (B := T1.setTop (mkF m 7 #[.val (.ref (A 8))] [(.ref (A 8)), (.int ((12 : Int32) <<< ((4 : Int32) &&& 31)))])) (fun _ k => XS.aloadN X1.here hx rfl (hb hby d1_6) rfl rfl k) ?_
  obtain ⟨T2, X2, e2, st2⟩ := getF X1 hx hZ hown (host := "") (Or.inl (hw _ (List.mem_of_getElem? (i := 11) rfl))) Via.refl e1 (F_PINGREQ_flags.ext x0) (g := (mkF m 7 #[.val (.ref (A 8))] [(.ref (A 8)), (.int ((12 : Int32) <<< ((4 : Int32) &&& 31)))])) rfl rfl (hb hby d1_7)
  refine own_go (B := T2.setTop (mkF m 10 #[.val (.ref (A 8))] [(.int (0 : Int32)), (.int ((12 : Int32) <<< ((4 : Int32) &&& 31)))])) st2 ?_
  refine own_go (B := T2.setTop (mkF m 11 #[.val (.ref (A 8))] [(.int (-1 : Int32)), (.int (0 : Int32)), (.int ((12 : Int32) <<< ((4 : Int32) &&& 31)))])) (fun _ k => XT.iconstV X2.here hx rfl (-1 : Int32) (hb hby d1_10) rfl k) ?_
  refine own_go (B := T2.setTop (mkF m 18 #[.val (.ref (A 8))] [(.int ((12 : Int32) <<< ((4 : Int32) &&& 31)))])) (fun _ k => XS.icmpYes X2.here hx rfl (pc0 := 11) (pc' := 18) rfl (hb hby d1_11) rfl (by decide) (by decide) (by decide) k) ?_
  refine own_go (B := T2.setTop (mkF m 19 #[.val (.ref (A 8))] [(.ref (A 8)), (.int ((12 : Int32) <<< ((4 : Int32) &&& 31)))])) (fun _ k => XS.aloadN X2.here hx rfl (hb hby d1_18) rfl rfl k) ?_
  obtain ⟨T3, X3, e3, st3⟩ := getF X2 hx hZ hown (host := "") (Or.inl (hw _ (List.mem_of_getElem? (i := 11) rfl))) Via.refl e2 (F_PINGREQ_flags.ext x0) (g := (mkF m 19 #[.val (.ref (A 8))] [(.ref (A 8)), (.int ((12 : Int32) <<< ((4 : Int32) &&& 31)))])) rfl rfl (hb hby d1_19)
  refine own_go (B := T3.setTop (mkF m 22 #[.val (.ref (A 8))] [(.int (0 : Int32)), (.int ((12 : Int32) <<< ((4 : Int32) &&& 31)))])) st3 ?_
  refine own_go (B := T3.setTop (mkF m 23 #[.val (.ref (A 8))] [(.int (((12 : Int32) <<< ((4 : Int32) &&& 31)) ||| (0 : Int32)))])) (fun _ k => XT.ior X3.here hx rfl (hb hby d1_22) rfl k) ?_
  exact own_ret X3 hx (t := .int) hrt rfl (Or.inl ⟨rfl, by simp, _, rfl⟩) (hb hby d1_23) hlk ⟨(congrArg (fun z => some (Value.int z)) (by decide +kernel : (((12 : Int32) <<< ((4 : Int32) &&& 31)) ||| (0 : Int32)) = (192 : Int32))), N0, e3⟩ (by decide) (by decide)
set_option maxRecDepth 65536 in
set_option maxHeartbeats 40000000 in
theorem rm2_11 (l : Launch) (Z : State) (a0 : Array Value) (hw : ∀ d ∈ tables_1, d.before a0 Z = true) (ws : List Jvm.Cond)  (A : Nat → Addr) (hW : own_W Z A) (h0 : Heap) (x0 : Ext Z.heap h0)  :
    own_Met l Z (⟨"com/example/ferrybus/ferrybus/codec/PacketType", "of", "(I)Lcom/example/ferrybus/ferrybus/codec/PacketType;"⟩ : MethodName) prog_32_method_4_code 1 (some (.object "com/example/ferrybus/ferrybus/codec/PacketType")) ws ({ frames := 0, cells := 0, slots := 0, locals := 0 } : Room) #[(.int (192 : Int32))] h0 (fun v_ h_ L_ => v_ = some (.ref (A 8)) ∧ Fr Z.heap.size L_ ∧ h_ = h0) := by
  refine own_body (plainFor_of_name pn_1) fun p e s m below meth c s₁ hx hby hml hown hnm hlk hrt hZ X0 e0 => ?_
  have N0 := Fr.nil Z.heap.size
  have hW' := hW
  obtain ⟨-, -, -, -, -, -, -, -, -, -, -, -, -, -, -, -, -, -, -, -, -, -, -, -, -, -, -, -, -, -, S_BY_VALUE, V_BY_VALUE, -, -, -, -, -, -, -, -, -, -, -, -, -, -, -, -, -, -, -, -, -, -, -, -, -, -, -, -, -, -⟩ := hW'
  refine own_go (B := s₁.setTop (mkF m 0 #[.val (.int (192 : Int32))] [])) (fun t k => castTop (ef_2 m (192 : Int32)) k) ?_
  obtain ⟨T1, X1, e1, st1⟩ := getS2 X0 hx hZ hown (host := "") (Or.inl (hw _ (List.mem_of_getElem? (i := 16) rfl))) Via.refl e0 (S_BY_VALUE.ext x0) (g := (mkF m 0 #[.val (.int (192 : Int32))] [])) rfl (hb hby d2_0)
  refine own_go (B := T1.setTop (mkF m 3 #[.val (.int (192 : Int32))] [(.ref (A 15))])) st1 ?_
  refine own_go (B := T1.setTop (mkF m 4 #[.val (.int (192 : Int32))] [(.int (192 : Int32)), (.ref (A 15))])) (fun _ k => XS.iloadN X1.here hx rfl (hb hby d2_3) rfl k) ?_
  refine own_go (B := T1.setTop (mkF m 5 #[.val (.int (192 : Int32))] [(.int (4 : Int32)), (.int (192 : Int32)), (.ref (A 15))])) (fun _ k => XT.iconstV X1.here hx rfl (4 : Int32) (hb hby d2_4) rfl k) ?_
  refine own_go (B := T1.setTop (mkF m 6 #[.val (.int (192 : Int32))] [(.int (((192 : Int32).toUInt32 >>> ((4 : Int32) &&& 31).toUInt32).toInt32)), (.ref (A 15))])) (fun _ k => XT.iushr X1.here hx rfl (hb hby d2_5) rfl k) ?_
  obtain ⟨k3, V3⟩ := id V_BY_VALUE
  obtain ⟨cl2, Ar2, q2a, q2b, q2c, q2d, q2e⟩ := id (V3.ext x0)
  have i2 := inb_of (j := (((192 : Int32).toUInt32 >>> ((4 : Int32) &&& 31).toUInt32).toInt32)) q2b ⟨by decide +kernel, by decide +kernel⟩
  refine own_go (B := T1.setTop (mkF m 7 #[.val (.int (192 : Int32))] [(.ref (A 8))])) (fun _ k => X1.aaload hx (j := (((192 : Int32).toUInt32 >>> ((4 : Int32) &&& 31).toUInt32).toInt32)) (v := (.ref (A 8))) (by rw [e1]; exact Ar2.1) (State.isArrayOf_alike hZ.alike Ar2.2.1) rfl Ar2.2.2 i2 (Has.at q2d i2 rfl) (g := (mkF m 6 #[.val (.int (192 : Int32))] [(.int (((192 : Int32).toUInt32 >>> ((4 : Int32) &&& 31).toUInt32).toInt32)), (.ref (A 15))])) rfl rfl (hb hby d2_6) _ k) ?_
  exact own_ret X1 hx (t := (.object "com/example/ferrybus/ferrybus/codec/PacketType")) hrt rfl (Or.inr (Or.inr (Or.inr (Or.inr ⟨rfl, rfl, rfl⟩)))) (hb hby d2_7) hlk ⟨rfl, N0, e1⟩ (by decide) (by decide)
set_option maxRecDepth 65536 in
set_option maxHeartbeats 40000000 in
theorem rm3_11 (l : Launch) (Z : State) (a0 : Array Value) (hw : ∀ d ∈ tables_1, d.before a0 Z = true) (ws : List Jvm.Cond)  (A : Nat → Addr) (hW : own_W Z A) (h0 : Heap) (x0 : Ext Z.heap h0)  :
    own_Met l Z (⟨"com/example/ferrybus/ferrybus/codec/PacketType", "allows", "(I)Z"⟩ : MethodName) prog_32_method_5_code 2 (some .boolean) ws ({ frames := 0, cells := 0, slots := 0, locals := 0 } : Room) #[(.ref (A 8)), (.int ((192 : Int32) &&& (15 : Int32)))] h0 (fun v_ h_ L_ => v_ = some (.int (1 : Int32)) ∧ Fr Z.heap.size L_ ∧ h_ = h0) := by
  refine own_body (plainFor_of_name pn_1) fun p e s m below meth c s₁ hx hby hml hown hnm hlk hrt hZ X0 e0 => ?_
  have N0 := Fr.nil Z.heap.size
  have hW' := hW
  obtain ⟨-, -, -, -, -, -, -, -, -, -, -, -, -, -, -, -, -, -, -, -, -, -, -, -, -, -, -, -, -, -, -, -, -, -, -, -, -, -, -, -, -, -, -, -, -, -, -, -, -, F_PINGREQ_flags, -, -, -, -, -, -, -, -, -, -, -, -⟩ := hW'
  refine own_go (B := s₁.setTop (mkF m 0 #[.val (.ref (A 8)), .val (.int ((192 : Int32) &&& (15 : Int32)))] [])) (fun t k => castTop (ef_3 m (A 8) ((192 : Int32) &&& (15 : Int32))) k) ?_
  refine own_go (B := s₁.setTop (mkF m 1 #[.val (.ref (A 8)), .val (.int ((192 : Int32) &&& (15 : Int32)))] [(.ref (A 8))])) (fun _ k => XS.aloadN X0.here hx rfl (hb hby d3_0) rfl rfl k) ?_
  obtain ⟨T1, X1, e1, st1⟩ := getF X0 hx hZ hown (host := "") (Or.inl (hw _ (List.mem_of_getElem? (i := 11) rfl))) Via.refl e0 (F_PINGREQ_flags.ext x0) (g := (mkF m 1 #[.val (.ref (A 8)), .val (.int ((192 : Int32) &&& (15 : Int32)))] [(.ref (A 8))])) rfl rfl (hb hby d3_1)
  refine own_go (B := T1.setTop (mkF m 4 #[.val (.ref (A 8)), .val (.int ((192 : Int32) &&& (15 : Int32)))] [(.int (0 : Int32))])) st1 ?_
  refine own_go (B := T1.setTop (mkF m 5 #[.val (.ref (A 8)), .val (.int ((192 : Int32) &&& (15 : Int32)))] [(.int (-1 : Int32)), (.int (0 : Int32))])) (fun _ k => XT.iconstV X1.here hx rfl (-1 : Int32) (hb hby d3_4) rfl k) ?_
  refine own_go (B := T1.setTop (mkF m 8 #[.val (.ref (A 8)), .val (.int ((192 : Int32) &&& (15 : Int32)))] [])) (fun _ k => XS.icmpNo X1.here hx rfl (hb hby d3_5) rfl (by decide) k) ?_
  refine own_go (B := T1.setTop (mkF m 9 #[.val (.ref (A 8)), .val (.int ((192 : Int32) &&& (15 : Int32)))] [(.ref (A 8))])) (fun _ k => XS.aloadN X1.here hx rfl (hb hby d3_8) rfl rfl k) ?_
  obtain ⟨T2, X2, e2, st2⟩ := getF X1 hx hZ hown (host := "") (Or.inl (hw _ (List.mem_of_getElem? (i := 11) rfl))) Via.refl e1 (F_PINGREQ_flags.ext x0) (g := (mkF m 9 #[.val (.ref (A 8)), .val (.int ((192 : Int32) &&& (15 : Int32)))] [(.ref (A 8))])) rfl rfl (hb hby d3_9)
  refine own_go (B := T2.setTop (mkF m 12 #[.val (.ref (A 8)), .val (.int ((192 : Int32) &&& (15 : Int32)))] [(.int (0 : Int32))])) st2 ?_
  refine own_go (B := T2.setTop (mkF m 13 #[.val (.ref (A 8)), .val (.int ((192 : Int32) &&& (15 : Int32)))] [(.int ((192 : Int32) &&& (15 : Int32))), (.int (0 : Int32))])) (fun _ k => XS.iloadN X2.here hx rfl (hb hby d3_12) rfl k) ?_
  refine own_go (B := T2.setTop (mkF m 16 #[.val (.ref (A 8)), .val (.int ((192 : Int32) &&& (15 : Int32)))] [])) (fun _ k => XS.icmpNo X2.here hx rfl (hb hby d3_13) rfl (by decide +kernel) k) ?_
  refine own_go (B := T2.setTop (mkF m 17 #[.val (.ref (A 8)), .val (.int ((192 : Int32) &&& (15 : Int32)))] [(.int (1 : Int32))])) (fun _ k => XT.iconstV X2.here hx rfl (1 : Int32) (hb hby d3_16) rfl k) ?_
  refine own_go (B := T2.setTop (mkF m 21 #[.val (.ref (A 8)), .val (.int ((192 : Int32) &&& (15 : Int32)))] [(.int (1 : Int32))])) (fun _ k => XS.goto X2.here hx rfl (pc0 := 17) (pc' := 21) rfl (hb hby d3_17) (by decide) (by decide) k) ?_
  exact own_ret X2 hx (t := .boolean) hrt rfl (Or.inl ⟨rfl, by simp, _, rfl⟩) (hb hby d3_21) hlk ⟨rfl, N0, e2⟩ (by decide) (by decide)
set_option maxRecDepth 65536 in
set_option maxHeartbeats 40000000 in
theorem rm1_12 (l : Launch) (Z : State) (a0 : Array Value) (hw : ∀ d ∈ tables_1, d.before a0 Z = true) (ws : List Jvm.Cond)  (A : Nat → Addr) (hW : own_W Z A) (h0 : Heap) (x0 : Ext Z.heap h0)  :
    own_Met l Z (⟨"com/example/ferrybus/ferrybus/codec/PacketType", "firstByte", "()I"⟩ : MethodName) prog_32_method_6_code 1 (some .int) ws ({ frames := 0, cells := 0, slots := 0, locals := 0 } : Room) #[(.ref (A 12))] h0 (fun v_ h_ L_ => v_ = some (.int (208 : Int32)) ∧ Fr Z.heap.size L_ ∧ h_ = h0) := by
  refine own_body (plainFor_of_name pn_1) fun p e s m below meth c s₁ hx hby hml hown hnm hlk hrt hZ X0 e0 => ?_
  have N0 := Fr.nil Z.heap.size
  have hW' := hW
  obtain ⟨-, -, -, -, -, -, -, -, -, -, -, -, -, -, -, -, -, -, -, -, -, -, -, -, -, -, -, -, -, -, -, -, -, -, -, -, -, -, -, -, -, -, -, -, -, -, -, -, -, -, -, -, -, -, -, -, F_PINGRESP_value, F_PINGRESP_flags, -, -, -, -⟩ := hW'
  refine own_go (B := s₁.setTop (mkF m 0 #[.val (.ref (A 12))] [])) (fun t k => castTop (ef_1 m (A 12)) k) ?_
  refine own_go (B := s₁.setTop (mkF m 1 #[.val (.ref (A 12))] [(.ref (A 12))])) (fun _ k => XS.aloadN X0.here hx rfl (hb hby d1_0) rfl rfl k) ?_
  obtain ⟨T1, X1, e1, st1⟩ := getF X0 hx hZ hown (host := "") (Or.inl (hw _ (List.mem_of_getElem? (i := 9) rfl))) Via.refl e0 (F_PINGRESP_value.ext x0) (g := (mkF m 1 #[.val (.ref (A 12))] [(.ref (A 12))])) rfl rfl (hb hby d1_1)
  refine own_go (B := T1.setTop (mkF m 4 #[.val (.ref (A 12))] [(.int (13 : Int32))])) st1 ?_
  refine own_go (B := T1.setTop (mkF m 5 #[.val (.ref (A 12))] [(.int (4 : Int32)), (.int (13 : Int32))])) (fun _ k => XT.iconstV X1.here hx rfl (4 : Int32) (hb hby d1_4) rfl k) ?_
  refine own_go (B := T1.setTop (mkF m 6 #[.val (.ref (A 12))] [(.int ((13 : Int32) <<< ((4 : Int32) &&& 31)))])) (fun _ k => XT.ishl X1.here hx rfl (hb hby d1_5) rfl k) ?_
  refine own_go (B := T1.setTop (mkF m 7 #[.val (.ref (A 12))] [(.ref (A 12)), (.int ((13 : Int32) <<< ((4 : Int32) &&& 31)))])) (fun _ k => XS.aloadN X1.here hx rfl (hb hby d1_6) rfl rfl k) ?_
  obtain ⟨T2, X2, e2, st2⟩ := getF X1 hx hZ hown (host := "") (Or.inl (hw _ (List.mem_of_getElem? (i := 11) rfl))) Via.refl e1 (F_PINGRESP_flags.ext x0) (g := (mkF m 7 #[.val (.ref (A 12))] [(.ref (A 12)), (.int ((13 : Int32) <<< ((4 : Int32) &&& 31)))])) rfl rfl (hb hby d1_7)
  refine own_go (B := T2.setTop (mkF m 10 #[.val (.ref (A 12))] [(.int (0 : Int32)), (.int ((13 : Int32) <<< ((4 : Int32) &&& 31)))])) st2 ?_
  refine own_go (B := T2.setTop (mkF m 11 #[.val (.ref (A 12))] [(.int (-1 : Int32)), (.int (0 : Int32)), (.int ((13 : Int32) <<< ((4 : Int32) &&& 31)))])) (fun _ k => XT.iconstV X2.here hx rfl (-1 : Int32) (hb hby d1_10) rfl k) ?_
  refine own_go (B := T2.setTop (mkF m 18 #[.val (.ref (A 12))] [(.int ((13 : Int32) <<< ((4 : Int32) &&& 31)))])) (fun _ k => XS.icmpYes X2.here hx rfl (pc0 := 11) (pc' := 18) rfl (hb hby d1_11) rfl (by decide) (by decide) (by decide) k) ?_
  refine own_go (B := T2.setTop (mkF m 19 #[.val (.ref (A 12))] [(.ref (A 12)), (.int ((13 : Int32) <<< ((4 : Int32) &&& 31)))])) (fun _ k => XS.aloadN X2.here hx rfl (hb hby d1_18) rfl rfl k) ?_
  obtain ⟨T3, X3, e3, st3⟩ := getF X2 hx hZ hown (host := "") (Or.inl (hw _ (List.mem_of_getElem? (i := 11) rfl))) Via.refl e2 (F_PINGRESP_flags.ext x0) (g := (mkF m 19 #[.val (.ref (A 12))] [(.ref (A 12)), (.int ((13 : Int32) <<< ((4 : Int32) &&& 31)))])) rfl rfl (hb hby d1_19)
  refine own_go (B := T3.setTop (mkF m 22 #[.val (.ref (A 12))] [(.int (0 : Int32)), (.int ((13 : Int32) <<< ((4 : Int32) &&& 31)))])) st3 ?_
  refine own_go (B := T3.setTop (mkF m 23 #[.val (.ref (A 12))] [(.int (((13 : Int32) <<< ((4 : Int32) &&& 31)) ||| (0 : Int32)))])) (fun _ k => XT.ior X3.here hx rfl (hb hby d1_22) rfl k) ?_
  exact own_ret X3 hx (t := .int) hrt rfl (Or.inl ⟨rfl, by simp, _, rfl⟩) (hb hby d1_23) hlk ⟨(congrArg (fun z => some (Value.int z)) (by decide +kernel : (((13 : Int32) <<< ((4 : Int32) &&& 31)) ||| (0 : Int32)) = (208 : Int32))), N0, e3⟩ (by decide) (by decide)
set_option maxRecDepth 65536 in
set_option maxHeartbeats 40000000 in
theorem rm2_12 (l : Launch) (Z : State) (a0 : Array Value) (hw : ∀ d ∈ tables_1, d.before a0 Z = true) (ws : List Jvm.Cond)  (A : Nat → Addr) (hW : own_W Z A) (h0 : Heap) (x0 : Ext Z.heap h0)  :
    own_Met l Z (⟨"com/example/ferrybus/ferrybus/codec/PacketType", "of", "(I)Lcom/example/ferrybus/ferrybus/codec/PacketType;"⟩ : MethodName) prog_32_method_4_code 1 (some (.object "com/example/ferrybus/ferrybus/codec/PacketType")) ws ({ frames := 0, cells := 0, slots := 0, locals := 0 } : Room) #[(.int (208 : Int32))] h0 (fun v_ h_ L_ => v_ = some (.ref (A 12)) ∧ Fr Z.heap.size L_ ∧ h_ = h0) := by
  refine own_body (plainFor_of_name pn_1) fun p e s m below meth c s₁ hx hby hml hown hnm hlk hrt hZ X0 e0 => ?_
  have N0 := Fr.nil Z.heap.size
  have hW' := hW
  obtain ⟨-, -, -, -, -, -, -, -, -, -, -, -, -, -, -, -, -, -, -, -, -, -, -, -, -, -, -, -, -, -, S_BY_VALUE, V_BY_VALUE, -, -, -, -, -, -, -, -, -, -, -, -, -, -, -, -, -, -, -, -, -, -, -, -, -, -, -, -, -, -⟩ := hW'
  refine own_go (B := s₁.setTop (mkF m 0 #[.val (.int (208 : Int32))] [])) (fun t k => castTop (ef_2 m (208 : Int32)) k) ?_
  obtain ⟨T1, X1, e1, st1⟩ := getS2 X0 hx hZ hown (host := "") (Or.inl (hw _ (List.mem_of_getElem? (i := 16) rfl))) Via.refl e0 (S_BY_VALUE.ext x0) (g := (mkF m 0 #[.val (.int (208 : Int32))] [])) rfl (hb hby d2_0)
  refine own_go (B := T1.setTop (mkF m 3 #[.val (.int (208 : Int32))] [(.ref (A 15))])) st1 ?_
  refine own_go (B := T1.setTop (mkF m 4 #[.val (.int (208 : Int32))] [(.int (208 : Int32)), (.ref (A 15))])) (fun _ k => XS.iloadN X1.here hx rfl (hb hby d2_3) rfl k) ?_
  refine own_go (B := T1.setTop (mkF m 5 #[.val (.int (208 : Int32))] [(.int (4 : Int32)), (.int (208 : Int32)), (.ref (A 15))])) (fun _ k => XT.iconstV X1.here hx rfl (4 : Int32) (hb hby d2_4) rfl k) ?_
  refine own_go (B := T1.setTop (mkF m 6 #[.val (.int (208 : Int32))] [(.int (((208 : Int32).toUInt32 >>> ((4 : Int32) &&& 31).toUInt32).toInt32)), (.ref (A 15))])) (fun _ k => XT.iushr X1.here hx rfl (hb hby d2_5) rfl k) ?_
  obtain ⟨k3, V3⟩ := id V_BY_VALUE
  obtain ⟨cl2, Ar2, q2a, q2b, q2c, q2d, q2e⟩ := id (V3.ext x0)
  have i2 := inb_of (j := (((208 : Int32).toUInt32 >>> ((4 : Int32) &&& 31).toUInt32).toInt32)) q2b ⟨by decide +kernel, by decide +kernel⟩
  refine own_go (B := T1.setTop (mkF m 7 #[.val (.int (208 : Int32))] [(.ref (A 12))])) (fun _ k => X1.aaload hx (j := (((208 : Int32).toUInt32 >>> ((4 : Int32) &&& 31).toUInt32).toInt32)) (v := (.ref (A 12))) (by rw [e1]; exact Ar2.1) (State.isArrayOf_alike hZ.alike Ar2.2.1) rfl Ar2.2.2 i2 (Has.at q2d i2 rfl) (g := (mkF m 6 #[.val (.int (208 : Int32))] [(.int (((208 : Int32).toUInt32 >>> ((4 : Int32) &&& 31).toUInt32).toInt32)), (.ref (A 15))])) rfl rfl (hb hby d2_6) _ k) ?_
  exact own_ret X1 hx (t := (.object "com/example/ferrybus/ferrybus/codec/PacketType")) hrt rfl (Or.inr (Or.inr (Or.inr (Or.inr ⟨rfl, rfl, rfl⟩)))) (hb hby d2_7) hlk ⟨rfl, N0, e1⟩ (by decide) (by decide)
set_option maxRecDepth 65536 in
set_option maxHeartbeats 40000000 in
theorem rm3_12 (l : Launch) (Z : State) (a0 : Array Value) (hw : ∀ d ∈ tables_1, d.before a0 Z = true) (ws : List Jvm.Cond)  (A : Nat → Addr) (hW : own_W Z A) (h0 : Heap) (x0 : Ext Z.heap h0)  :
    own_Met l Z (⟨"com/example/ferrybus/ferrybus/codec/PacketType", "allows", "(I)Z"⟩ : MethodName) prog_32_method_5_code 2 (some .boolean) ws ({ frames := 0, cells := 0, slots := 0, locals := 0 } : Room) #[(.ref (A 12)), (.int ((208 : Int32) &&& (15 : Int32)))] h0 (fun v_ h_ L_ => v_ = some (.int (1 : Int32)) ∧ Fr Z.heap.size L_ ∧ h_ = h0) := by
  refine own_body (plainFor_of_name pn_1) fun p e s m below meth c s₁ hx hby hml hown hnm hlk hrt hZ X0 e0 => ?_
  have N0 := Fr.nil Z.heap.size
  have hW' := hW
  obtain ⟨-, -, -, -, -, -, -, -, -, -, -, -, -, -, -, -, -, -, -, -, -, -, -, -, -, -, -, -, -, -, -, -, -, -, -, -, -, -, -, -, -, -, -, -, -, -, -, -, -, -, -, -, -, -, -, -, -, F_PINGRESP_flags, -, -, -, -⟩ := hW'
  refine own_go (B := s₁.setTop (mkF m 0 #[.val (.ref (A 12)), .val (.int ((208 : Int32) &&& (15 : Int32)))] [])) (fun t k => castTop (ef_3 m (A 12) ((208 : Int32) &&& (15 : Int32))) k) ?_
  refine own_go (B := s₁.setTop (mkF m 1 #[.val (.ref (A 12)), .val (.int ((208 : Int32) &&& (15 : Int32)))] [(.ref (A 12))])) (fun _ k => XS.aloadN X0.here hx rfl (hb hby d3_0) rfl rfl k) ?_
  obtain ⟨T1, X1, e1, st1⟩ := getF X0 hx hZ hown (host := "") (Or.inl (hw _ (List.mem_of_getElem? (i := 11) rfl))) Via.refl e0 (F_PINGRESP_flags.ext x0) (g := (mkF m 1 #[.val (.ref (A 12)), .val (.int ((208 : Int32) &&& (15 : Int32)))] [(.ref (A 12))])) rfl rfl (hb hby d3_1)
  refine own_go (B := T1.setTop (mkF m 4 #[.val (.ref (A 12)), .val (.int ((208 : Int32) &&& (15 : Int32)))] [(.int (0 : Int32))])) st1 ?_
  refine own_go (B := T1.setTop (mkF m 5 #[.val (.ref (A 12)), .val (.int ((208 : Int32) &&& (15 : Int32)))] [(.int (-1 : Int32)), (.int (0 : Int32))])) (fun _ k => XT.iconstV X1.here hx rfl (-1 : Int32) (hb hby d3_4) rfl k) ?_
  refine own_go (B := T1.setTop (mkF m 8 #[.val (.ref (A 12)), .val (.int ((208 : Int32) &&& (15 : Int32)))] [])) (fun _ k => XS.icmpNo X1.here hx rfl (hb hby d3_5) rfl (by decide) k) ?_
  refine own_go (B := T1.setTop (mkF m 9 #[.val (.ref (A 12)), .val (.int ((208 : Int32) &&& (15 : Int32)))] [(.ref (A 12))])) (fun _ k => XS.aloadN X1.here hx rfl (hb hby d3_8) rfl rfl k) ?_
  obtain ⟨T2, X2, e2, st2⟩ := getF X1 hx hZ hown (host := "") (Or.inl (hw _ (List.mem_of_getElem? (i := 11) rfl))) Via.refl e1 (F_PINGRESP_flags.ext x0) (g := (mkF m 9 #[.val (.ref (A 12)), .val (.int ((208 : Int32) &&& (15 : Int32)))] [(.ref (A 12))])) rfl rfl (hb hby d3_9)
  refine own_go (B := T2.setTop (mkF m 12 #[.val (.ref (A 12)), .val (.int ((208 : Int32) &&& (15 : Int32)))] [(.int (0 : Int32))])) st2 ?_
  refine own_go (B := T2.setTop (mkF m 13 #[.val (.ref (A 12)), .val (.int ((208 : Int32) &&& (15 : Int32)))] [(.int ((208 : Int32) &&& (15 : Int32))), (.int (0 : Int32))])) (fun _ k => XS.iloadN X2.here hx rfl (hb hby d3_12) rfl k) ?_
  refine own_go (B := T2.setTop (mkF m 16 #[.val (.ref (A 12)), .val (.int ((208 : Int32) &&& (15 : Int32)))] [])) (fun _ k => XS.icmpNo X2.here hx rfl (hb hby d3_13) rfl (by decide +kernel) k) ?_
  refine own_go (B := T2.setTop (mkF m 17 #[.val (.ref (A 12)), .val (.int ((208 : Int32) &&& (15 : Int32)))] [(.int (1 : Int32))])) (fun _ k => XT.iconstV X2.here hx rfl (1 : Int32) (hb hby d3_16) rfl k) ?_
  refine own_go (B := T2.setTop (mkF m 21 #[.val (.ref (A 12)), .val (.int ((208 : Int32) &&& (15 : Int32)))] [(.int (1 : Int32))])) (fun _ k => XS.goto X2.here hx rfl (pc0 := 17) (pc' := 21) rfl (hb hby d3_17) (by decide) (by decide) k) ?_
  exact own_ret X2 hx (t := .boolean) hrt rfl (Or.inl ⟨rfl, by simp, _, rfl⟩) (hb hby d3_21) hlk ⟨rfl, N0, e2⟩ (by decide) (by decide)
set_option maxRecDepth 65536 in
set_option maxHeartbeats 40000000 in
theorem rm1_13 (l : Launch) (Z : State) (a0 : Array Value) (hw : ∀ d ∈ tables_1, d.before a0 Z = true) (ws : List Jvm.Cond)  (A : Nat → Addr) (hW : own_W Z A) (h0 : Heap) (x0 : Ext Z.heap h0)  :
    own_Met l Z (⟨"com/example/ferrybus/ferrybus/codec/PacketType", "firstByte", "()I"⟩ : MethodName) prog_32_method_6_code 1 (some .int) ws ({ frames := 0, cells := 0, slots := 0, locals := 0 } : Room) #[(.ref (A 3))] h0 (fun v_ h_ L_ => v_ = some (.int (224 : Int32)) ∧ Fr Z.heap.size L_ ∧ h_ = h0) := by
  refine own_body (plainFor_of_name pn_1) fun p e s m below meth c s₁ hx hby hml hown hnm hlk hrt hZ X0 e0 => ?_
  have N0 := Fr.nil Z.heap.size
  have hW' := hW
  obtain ⟨-, -, -, -, -, -, -, -, -, -, -, -, -, -, -, -, -, -, -, -, -, -, -, -, -, -, -, -, -, -, -, -, -, -, -, -, -, -, F_DISCONNECT_value, F_DISCONNECT_flags, -, -, -, -, -, -, -, -, -, -, -, -, -, -, -, -, -, -, -, -, -, -⟩ := hW'
  refine own_go (B := s₁.setTop (mkF m 0 #[.val (.ref (A 3))] [])) (fun t k => castTop (ef_1 m (A 3)) k) ?_
  refine own_go (B := s₁.setTop (mkF m 1 #[.val (.ref (A 3))] [(.ref (A 3))])) (fun _ k => XS.aloadN X0.here hx rfl (hb hby d1_0) rfl rfl k) ?_
  obtain ⟨T1, X1, e1, st1⟩ := getF X0 hx hZ hown (host := "") (Or.inl (hw _ (List.mem_of_getElem? (i := 9) rfl))) Via.refl e0 (F_DISCONNECT_value.ext x0) (g := (mkF m 1 #[.val (.ref (A 3))] [(.ref (A 3))])) rfl rfl (hb hby d1_1)
  refine own_go (B := T1.setTop (mkF m 4 #[.val (.ref (A 3))] [(.int (14 : Int32))])) st1 ?_
  refine own_go (B := T1.setTop (mkF m 5 #[.val (.ref (A 3))] [(.int (4 : Int32)), (.int (14 : Int32))])) (fun _ k => XT.iconstV X1.here hx rfl (4 : Int32) (hb hby d1_4) rfl k) ?_
  refine own_go (B := T1.setTop (mkF m 6 #[.val (.ref (A 3))] [(.int ((14 : Int32) <<< ((4 : Int32) &&& 31)))])) (fun _ k => XT.ishl X1.here hx rfl (hb hby d1_5) rfl k) ?_
  refine own_go (B := T1.setTop (mkF m 7 #[.val (.ref (A 3))] [(.ref (A 3)), (.int ((14 : Int32) <<< ((4 : Int32) &&& 31)))])) (fun _ k => XS.aloadN X1.here hx rfl (hb hby d1_6) rfl rfl k) ?_
  obtain ⟨T2, X2, e2, st2⟩ := getF X1 hx hZ hown (host := "") (Or.inl (hw _ (List.mem_of_getElem? (i := 11) rfl))) Via.refl e1 (F_DISCONNECT_flags.ext x0) (g := (mkF m 7 #[.val (.ref (A 3))] [(.ref (A 3)), (.int ((14 : Int32) <<< ((4 : Int32) &&& 31)))])) rfl rfl (hb hby d1_7)
  refine own_go (B := T2.setTop (mkF m 10 #[.val (.ref (A 3))] [(.int (0 : Int32)), (.int ((14 : Int32) <<< ((4 : Int32) &&& 31)))])) st2 ?_
  refine own_go (B := T2.setTop (mkF m 11 #[.val (.ref (A 3))] [(.int (-1 : Int32)), (.int (0 : Int32)), (.int ((14 : Int32) <<< ((4 : Int32) &&& 31)))])) (fun _ k => XT.iconstV X2.here hx rfl (-1 : Int32) (hb hby d1_10) rfl k) ?_
  refine own_go (B := T2.setTop (mkF m 18 #[.val (.ref (A 3))] [(.int ((14 : Int32) <<< ((4 : Int32) &&& 31)))])) (fun _ k => XS.icmpYes X2.here hx rfl (pc0 := 11) (pc' := 18) rfl (hb hby d1_11) rfl (by decide) (by decide) (by decide) k) ?_
  refine own_go (B := T2.setTop (mkF m 19 #[.val (.ref (A 3))] [(.ref (A 3)), (.int ((14 : Int32) <<< ((4 : Int32) &&& 31)))])) (fun _ k => XS.aloadN X2.here hx rfl (hb hby d1_18) rfl rfl k) ?_
  obtain ⟨T3, X3, e3, st3⟩ := getF X2 hx hZ hown (host := "") (Or.inl (hw _ (List.mem_of_getElem? (i := 11) rfl))) Via.refl e2 (F_DISCONNECT_flags.ext x0) (g := (mkF m 19 #[.val (.ref (A 3))] [(.ref (A 3)), (.int ((14 : Int32) <<< ((4 : Int32) &&& 31)))])) rfl rfl (hb hby d1_19)
  refine own_go (B := T3.setTop (mkF m 22 #[.val (.ref (A 3))] [(.int (0 : Int32)), (.int ((14 : Int32) <<< ((4 : Int32) &&& 31)))])) st3 ?_
  refine own_go (B := T3.setTop (mkF m 23 #[.val (.ref (A 3))] [(.int (((14 : Int32) <<< ((4 : Int32) &&& 31)) ||| (0 : Int32)))])) (fun _ k => XT.ior X3.here hx rfl (hb hby d1_22) rfl k) ?_
  exact own_ret X3 hx (t := .int) hrt rfl (Or.inl ⟨rfl, by simp, _, rfl⟩) (hb hby d1_23) hlk ⟨(congrArg (fun z => some (Value.int z)) (by decide +kernel : (((14 : Int32) <<< ((4 : Int32) &&& 31)) ||| (0 : Int32)) = (224 : Int32))), N0, e3⟩ (by decide) (by decide)
set_option maxRecDepth 65536 in
set_option maxHeartbeats 40000000 in
theorem rm2_13 (l : Launch) (Z : State) (a0 : Array Value) (hw : ∀ d ∈ tables_1, d.before a0 Z = true) (ws : List Jvm.Cond)  (A : Nat → Addr) (hW : own_W Z A) (h0 : Heap) (x0 : Ext Z.heap h0)  :
    own_Met l Z (⟨"com/example/ferrybus/ferrybus/codec/PacketType", "of", "(I)Lcom/example/ferrybus/ferrybus/codec/PacketType;"⟩ : MethodName) prog_32_method_4_code 1 (some (.object "com/example/ferrybus/ferrybus/codec/PacketType")) ws ({ frames := 0, cells := 0, slots := 0, locals := 0 } : Room) #[(.int (224 : Int32))] h0 (fun v_ h_ L_ => v_ = some (.ref (A 3)) ∧ Fr Z.heap.size L_ ∧ h_ = h0) := by
  refine own_body (plainFor_of_name pn_1) fun p e s m below meth c s₁ hx hby hml hown hnm hlk hrt hZ X0 e0 => ?_
  have N0 := Fr.nil Z.heap.size
  have hW' := hW
  obtain ⟨-, -, -, -, -, -, -, -, -, -, -, -, -, -, -, -, -, -, -, -, -, -, -, -, -, -, -, -, -, -, S_BY_VALUE, V_BY_VALUE, -, -, -, -, -, -, -, -, -, -, -, -, -, -, -, -, -, -, -, -, -, -, -, -, -, -, -, -, -, -⟩ := hW'
  refine own_go (B := s₁.setTop (mkF m 0 #[.val (.int (224 : Int32))] [])) (fun t k => castTop (ef_2 m (224 : Int32)) k) ?_
  obtain ⟨T1, X1, e1, st1⟩ := getS2 X0 hx hZ hown (host := "") (Or.inl (hw _ (List.mem_of_getElem? (i := 16) rfl))) Via.refl e0 (S_BY_VALUE.ext x0) (g := (mkF m 0 #[.val (.int (224 : Int32))] [])) rfl (hb hby d2_0)
  refine own_go (B := T1.setTop (mkF m 3 #[.val (.int (224 : Int32))] [(.ref (A 15))])) st1 ?_
  refine own_go (B := T1.setTop (mkF m 4 #[.val (.int (224 : Int32))] [(.int (224 : Int32)), (.ref (A 15))])) (fun _ k => XS.iloadN X1.here hx rfl (hb hby d2_3) rfl k) ?_
  refine own_go (B := T1.setTop (mkF m 5 #[.val (.int (224 : Int32))] [(.int (4 : Int32)), (.int (224 : Int32)), (.ref (A 15))])) (fun _ k => XT.iconstV X1.here hx rfl (4 : Int32) (hb hby d2_4) rfl k) ?_
  refine own_go (B := T1.setTop (mkF m 6 #[.val (.int (224 : Int32))] [(.int (((224 : Int32).toUInt32 >>> ((4 : Int32) &&& 31).toUInt32).toInt32)), (.ref (A 15))])) (fun _ k => XT.iushr X1.here hx rfl (hb hby d2_5) rfl k) ?_
  obtain ⟨k3, V3⟩ := id V_BY_VALUE
  obtain ⟨cl2, Ar2, q2a, q2b, q2c, q2d, q2e⟩ := id (V3.ext x0)
  have i2 := inb_of (j := (((224 : Int32).toUInt32 >>> ((4 : Int32) &&& 31).toUInt32).toInt32)) q2b ⟨by decide +kernel, by decide +kernel⟩
  refine own_go (B := T1.setTop (mkF m 7 #[.val (.int (224 : Int32))] [(.ref (A 3))])) (fun _ k => X1.aaload hx (j := (((224 : Int32).toUInt32 >>> ((4 : Int32) &&& 31).toUInt32).toInt32)) (v := (.ref (A 3))) (by rw [e1]; exact Ar2.1) (State.isArrayOf_alike hZ.alike Ar2.2.1) rfl Ar2.2.2 i2 (Has.at q2d i2 rfl) (g := (mkF m 6 #[.val (.int (224 : Int32))] [(.int (((224 : Int32).toUInt32 >>> ((4 : Int32) &&& 31).toUInt32).toInt32)), (.ref (A 15))])) rfl rfl (hb hby d2_6) _ k) ?_
  exact own_ret X1 hx (t := (.object "com/example/ferrybus/ferrybus/codec/PacketType")) hrt rfl (Or.inr (Or.inr (Or.inr (Or.inr ⟨rfl, rfl, rfl⟩)))) (hb hby d2_7) hlk ⟨rfl, N0, e1⟩ (by decide) (by decide)
set_option maxRecDepth 65536 in
set_option maxHeartbeats 40000000 in
theorem rm3_13 (l : Launch) (Z : State) (a0 : Array Value) (hw : ∀ d ∈ tables_1, d.before a0 Z = true) (ws : List Jvm.Cond)  (A : Nat → Addr) (hW : own_W Z A) (h0 : Heap) (x0 : Ext Z.heap h0)  :
    own_Met l Z (⟨"com/example/ferrybus/ferrybus/codec/PacketType", "allows", "(I)Z"⟩ : MethodName) prog_32_method_5_code 2 (some .boolean) ws ({ frames := 0, cells := 0, slots := 0, locals := 0 } : Room) #[(.ref (A 3)), (.int ((224 : Int32) &&& (15 : Int32)))] h0 (fun v_ h_ L_ => v_ = some (.int (1 : Int32)) ∧ Fr Z.heap.size L_ ∧ h_ = h0) := by
  refine own_body (plainFor_of_name pn_1) fun p e s m below meth c s₁ hx hby hml hown hnm hlk hrt hZ X0 e0 => ?_
  have N0 := Fr.nil Z.heap.size
  have hW' := hW
  obtain ⟨-, -, -, -, -, -, -, -, -, -, -, -, -, -, -, -, -, -, -, -, -, -, -, -, -, -, -, -, -, -, -, -, -, -, -, -, -, -, -, F_DISCONNECT_flags, -, -, -, -, -, -, -, -, -, -, -, -, -, -, -, -, -, -, -, -, -, -⟩ := hW'
  refine own_go (B := s₁.setTop (mkF m 0 #[.val (.ref (A 3)), .val (.int ((224 : Int32) &&& (15 : Int32)))] [])) (fun t k => castTop (ef_3 m (A 3) ((224 : Int32) &&& (15 : Int32))) k) ?_
  refine own_go (B := s₁.setTop (mkF m 1 #[.val (.ref (A 3)), .val (.int ((224 : Int32) &&& (15 : Int32)))] [(.ref (A 3))])) (fun _ k => XS.aloadN X0.here hx rfl (hb hby d3_0) rfl rfl k) ?_
  obtain ⟨T1, X1, e1, st1⟩ := getF X0 hx hZ hown (host := "") (Or.inl (hw _ (List.mem_of_getElem? (i := 11) rfl))) Via.refl e0 (F_DISCONNECT_flags.ext x0) (g := (mkF m 1 #[.val (.ref (A 3)), .val (.int ((224 : Int32) &&& (15 : Int32)))] [(.ref (A 3))])) rfl rfl (hb hby d3_1)
  refine own_go (B := T1.setTop (mkF m 4 #[.val (.ref (A 3)), .val (.int ((224 : Int32) &&& (15 : Int32)))] [(.int (0 : Int32))])) st1 ?_
  refine own_go (B := T1.setTop (mkF m 5 #[.val (.ref (A 3)), .val (.int ((224 : Int32) &&& (15 : Int32)))] [(.int (-1 : Int32)), (.int (0 : Int32))])) (fun _ k => XT.iconstV X1.here hx rfl (-1 : Int32) (hb hby d3_4) rfl k) ?_
  refine own_go (B := T1.setTop (mkF m 8 #[.val (.ref (A 3)), .val (.int ((224 : Int32) &&& (15 : Int32)))] [])) (fun _ k => XS.icmpNo X1.here hx rfl (hb hby d3_5) rfl (by decide) k) ?_
  refine own_go (B := T1.setTop (mkF m 9 #[.val (.ref (A 3)), .val (.int ((224 : Int32) &&& (15 : Int32)))] [(.ref (A 3))])) (fun _ k => XS.aloadN X1.here hx rfl (hb hby d3_8) rfl rfl k) ?_
  obtain ⟨T2, X2, e2, st2⟩ := getF X1 hx hZ hown (host := "") (Or.inl (hw _ (List.mem_of_getElem? (i := 11) rfl))) Via.refl e1 (F_DISCONNECT_flags.ext x0) (g := (mkF m 9 #[.val (.ref (A 3)), .val (.int ((224 : Int32) &&& (15 : Int32)))] [(.ref (A 3))])) rfl rfl (hb hby d3_9)
  refine own_go (B := T2.setTop (mkF m 12 #[.val (.ref (A 3)), .val (.int ((224 : Int32) &&& (15 : Int32)))] [(.int (0 : Int32))])) st2 ?_
  refine own_go (B := T2.setTop (mkF m 13 #[.val (.ref (A 3)), .val (.int ((224 : Int32) &&& (15 : Int32)))] [(.int ((224 : Int32) &&& (15 : Int32))), (.int (0 : Int32))])) (fun _ k => XS.iloadN X2.here hx rfl (hb hby d3_12) rfl k) ?_
  refine own_go (B := T2.setTop (mkF m 16 #[.val (.ref (A 3)), .val (.int ((224 : Int32) &&& (15 : Int32)))] [])) (fun _ k => XS.icmpNo X2.here hx rfl (hb hby d3_13) rfl (by decide +kernel) k) ?_
  refine own_go (B := T2.setTop (mkF m 17 #[.val (.ref (A 3)), .val (.int ((224 : Int32) &&& (15 : Int32)))] [(.int (1 : Int32))])) (fun _ k => XT.iconstV X2.here hx rfl (1 : Int32) (hb hby d3_16) rfl k) ?_
  refine own_go (B := T2.setTop (mkF m 21 #[.val (.ref (A 3)), .val (.int ((224 : Int32) &&& (15 : Int32)))] [(.int (1 : Int32))])) (fun _ k => XS.goto X2.here hx rfl (pc0 := 17) (pc' := 21) rfl (hb hby d3_17) (by decide) (by decide) k) ?_
  exact own_ret X2 hx (t := .boolean) hrt rfl (Or.inl ⟨rfl, by simp, _, rfl⟩) (hb hby d3_21) hlk ⟨rfl, N0, e2⟩ (by decide) (by decide)
set_option maxRecDepth 65536 in
set_option maxHeartbeats 40000000 in
theorem rm1_14 (l : Launch) (Z : State) (a0 : Array Value) (hw : ∀ d ∈ tables_1, d.before a0 Z = true) (ws : List Jvm.Cond)  (A : Nat → Addr) (hW : own_W Z A) (h0 : Heap) (x0 : Ext Z.heap h0)  :
    own_Met l Z (⟨"com/example/ferrybus/ferrybus/codec/PacketType", "firstByte", "()I"⟩ : MethodName) prog_32_method_6_code 1 (some .int) ws ({ frames := 0, cells := 0, slots := 0, locals := 0 } : Room) #[(.ref (A 5))] h0 (fun v_ h_ L_ => v_ = some (.int (240 : Int32)) ∧ Fr Z.heap.size L_ ∧ h_ = h0) := by
  refine own_body (plainFor_of_name pn_1) fun p e s m below meth c s₁ hx hby hml hown hnm hlk hrt hZ X0 e0 => ?_
  have N0 := Fr.nil Z.heap.size
  have hW' := hW
  obtain ⟨-, -, -, -, -, -, -, -, -, -, -, -, -, -, -, -, -, -, -, -, -, -, -, -, -, -, -, -, -, -, -, -, -, -, -, -, -, -, -, -, -, -, F_AUTH_value, F_AUTH_flags, -, -, -, -, -, -, -, -, -, -, -, -, -, -, -, -, -, -⟩ := hW'
  refine own_go (B := s₁.setTop (mkF m 0 #[.val (.ref (A 5))] [])) (fun t k => castTop (ef_1 m (A 5)) k) ?_
  refine own_go (B := s₁.setTop (mkF m 1 #[.val (.ref (A 5))] [(.ref (A 5))])) (fun _ k => XS.aloadN X0.here hx rfl (hb hby d1_0) rfl rfl k) ?_
  obtain ⟨T1, X1, e1, st1⟩ := getF X0 hx hZ hown (host := "") (Or.inl (hw _ (List.mem_of_getElem? (i := 9) rfl))) Via.refl e0 (F_AUTH_value.ext x0) (g := (mkF m 1 #[.val (.ref (A 5))] [(.ref (A 5))])) rfl rfl (hb hby d1_1)
  refine own_go (B := T1.setTop (mkF m 4 #[.val (.ref (A 5))] [(.int (15 : Int32))])) st1 ?_
  refine own_go (B := T1.setTop (mkF m 5 #[.val (.ref (A 5))] [(.int (4 : Int32)), (.int (15 : Int32))])) (fun _ k => XT.iconstV X1.here hx rfl (4 : Int32) (hb hby d1_4) rfl k) ?_
  refine own_go (B := T1.setTop (mkF m 6 #[.val (.ref (A 5))] [(.int ((15 : Int32) <<< ((4 : Int32) &&& 31)))])) (fun _ k => XT.ishl X1.here hx rfl (hb hby d1_5) rfl k) ?_
  refine own_go (B := T1.setTop (mkF m 7 #[.val (.ref (A 5))] [(.ref (A 5)), (.int ((15 : Int32) <<< ((4 : Int32) &&& 31)))])) (fun _ k => XS.aloadN X1.here hx rfl (hb hby d1_6) rfl rfl k) ?_
  obtain ⟨T2, X2, e2, st2⟩ := getF X1 hx hZ hown (host := "") (Or.inl (hw _ (List.mem_of_getElem? (i := 11) rfl))) Via.refl e1 (F_AUTH_flags.ext x0) (g := (mkF m 7 #[.val (.ref (A 5))] [(.ref (A 5)), (.int ((15 : Int32) <<< ((4 : Int32) &&& 31)))])) rfl rfl (hb hby d1_7)
  refine own_go (B := T2.setTop (mkF m 10 #[.val (.ref (A 5))] [(.int (0 : Int32)), (.int ((15 : Int32) <<< ((4 : Int32) &&& 31)))])) st2 ?_
  refine own_go (B := T2.setTop (mkF m 11 #[.val (.ref (A 5))] [(.int (-1 : Int32)), (.int (0 : Int32)), (.int ((15 : Int32) <<< ((4 : Int32) &&& 31)))])) (fun _ k => XT.iconstV X2.here hx rfl (-1 : Int32) (hb hby d1_10) rfl k) ?_
  refine own_go (B := T2.setTop (mkF m 18 #[.val (.ref (A 5))] [(.int ((15 : Int32) <<< ((4 : Int32) &&& 31)))])) (fun _ k => XS.icmpYes X2.here hx rfl (pc0 := 11) (pc' := 18) rfl (hb hby d1_11) rfl (by decide) (by decide) (by decide) k) ?_
  refine own_go (B := T2.setTop (mkF m 19 #[.val (.ref (A 5))] [(.ref (A 5)), (.int ((15 : Int32) <<< ((4 : Int32) &&& 31)))])) (fun _ k => XS.aloadN X2.here hx rfl (hb hby d1_18) rfl rfl k) ?_
  obtain ⟨T3, X3, e3, st3⟩ := getF X2 hx hZ hown (host := "") (Or.inl (hw _ (List.mem_of_getElem? (i := 11) rfl))) Via.refl e2 (F_AUTH_flags.ext x0) (g := (mkF m 19 #[.val (.ref (A 5))] [(.ref (A 5)), (.int ((15 : Int32) <<< ((4 : Int32) &&& 31)))])) rfl rfl (hb hby d1_19)
  refine own_go (B := T3.setTop (mkF m 22 #[.val (.ref (A 5))] [(.int (0 : Int32)), (.int ((15 : Int32) <<< ((4 : Int32) &&& 31)))])) st3 ?_
  refine own_go (B := T3.setTop (mkF m 23 #[.val (.ref (A 5))] [(.int (((15 : Int32) <<< ((4 : Int32) &&& 31)) ||| (0 : Int32)))])) (fun _ k => XT.ior X3.here hx rfl (hb hby d1_22) rfl k) ?_
  exact own_ret X3 hx (t := .int) hrt rfl (Or.inl ⟨rfl, by simp, _, rfl⟩) (hb hby d1_23) hlk ⟨(congrArg (fun z => some (Value.int z)) (by decide +kernel : (((15 : Int32) <<< ((4 : Int32) &&& 31)) ||| (0 : Int32)) = (240 : Int32))), N0, e3⟩ (by decide) (by decide)
set_option maxRecDepth 65536 in
set_option maxHeartbeats 40000000 in
theorem rm2_14 (l : Launch) (Z : State) (a0 : Array Value) (hw : ∀ d ∈ tables_1, d.before a0 Z = true) (ws : List Jvm.Cond)  (A : Nat → Addr) (hW : own_W Z A) (h0 : Heap) (x0 : Ext Z.heap h0)  :
    own_Met l Z (⟨"com/example/ferrybus/ferrybus/codec/PacketType", "of", "(I)Lcom/example/ferrybus/ferrybus/codec/PacketType;"⟩ : MethodName) prog_32_method_4_code 1 (some (.object "com/example/ferrybus/ferrybus/codec/PacketType")) ws ({ frames := 0, cells := 0, slots := 0, locals := 0 } : Room) #[(.int (240 : Int32))] h0 (fun v_ h_ L_ => v_ = some (.ref (A 5)) ∧ Fr Z.heap.size L_ ∧ h_ = h0) := by
  refine own_body (plainFor_of_name pn_1) fun p e s m below meth c s₁ hx hby hml hown hnm hlk hrt hZ X0 e0 => ?_
  have N0 := Fr.nil Z.heap.size
  have hW' := hW
  obtain ⟨-, -, -, -, -, -, -, -, -, -, -, -, -, -, -, -, -, -, -, -, -, -, -, -, -, -, -, -, -, -, S_BY_VALUE, V_BY_VALUE, -, -, -, -, -, -, -, -, -, -, -, -, -, -, -, -, -, -, -, -, -, -, -, -, -, -, -, -, -, -⟩ := hW'
  refine own_go (B := s₁.setTop (mkF m 0 #[.val (.int (240 : Int32))] [])) (fun t k => castTop (ef_2 m (240 : Int32)) k) ?_
  obtain ⟨T1, X1, e1, st1⟩ := getS2 X0 hx hZ hown (host := "") (Or.inl (hw _ (List.mem_of_getElem? (i := 16) rfl))) Via.refl e0 (S_BY_VALUE.ext x0) (g := (mkF m 0 #[.val (.int (240 : Int32))] [])) rfl (hb hby d2_0)
  refine own_go (B := T1.setTop (mkF m 3 #[.val (.int (240 : Int32))] [(.ref (A 15))])) st1 ?_
  refine own_go (B := T1.setTop (mkF m 4 #[.val (.int (240 : Int32))] [(.int (240 : Int32)), (.ref (A 15))])) (fun _ k => XS.iloadN X1.here hx rfl (hb hby d2_3) rfl k) ?_
  refine own_go (B := T1.setTop (mkF m 5 #[.val (.int (240 : Int32))] [(.int (4 : Int32)), (.int (240 : Int32)), (.ref (A 15))])) (fun _ k => XT.iconstV X1.here hx rfl (4 : Int32) (hb hby d2_4) rfl k) ?_
  refine own_go (B := T1.setTop (mkF m 6 #[.val (.int (240 : Int32))] [(.int (((240 : Int32).toUInt32 >>> ((4 : Int32) &&& 31).toUInt32).toInt32)), (.ref (A 15))])) (fun _ k => XT.iushr X1.here hx rfl (hb hby d2_5) rfl k) ?_
  obtain ⟨k3, V3⟩ := id V_BY_VALUE
  obtain ⟨cl2, Ar2, q2a, q2b, q2c, q2d, q2e⟩ := id (V3.ext x0)
  have i2 := inb_of (j := (((240 : Int32).toUInt32 >>> ((4 : Int32) &&& 31).toUInt32).toInt32)) q2b ⟨by decide +kernel, by decide +kernel⟩
  refine own_go (B := T1.setTop (mkF m 7 #[.val (.int (240 : Int32))] [(.ref (A 5))])) (fun _ k => X1.aaload hx (j := (((240 : Int32).toUInt32 >>> ((4 : Int32) &&& 31).toUInt32).toInt32)) (v := (.ref (A 5))) (by rw [e1]; exact Ar2.1) (State.isArrayOf_alike hZ.alike Ar2.2.1) rfl Ar2.2.2 i2 (Has.at q2d i2 rfl) (g := (mkF m 6 #[.val (.int (240 : Int32))] [(.int (((240 : Int32).toUInt32 >>> ((4 : Int32) &&& 31).toUInt32).toInt32)), (.ref (A 15))])) rfl rfl (hb hby d2_6) _ k) ?_
  exact own_ret X1 hx (t := (.object "com/example/ferrybus/ferrybus/codec/PacketType")) hrt rfl (Or.inr (Or.inr (Or.inr (Or.inr ⟨rfl, rfl, rfl⟩)))) (hb hby d2_7) hlk ⟨rfl, N0, e1⟩ (by decide) (by decide)
set_option maxRecDepth 65536 in
set_option maxHeartbeats 40000000 in
theorem rm3_14 (l : Launch) (Z : State) (a0 : Array Value) (hw : ∀ d ∈ tables_1, d.before a0 Z = true) (ws : List Jvm.Cond)  (A : Nat → Addr) (hW : own_W Z A) (h0 : Heap) (x0 : Ext Z.heap h0)  :
    own_Met l Z (⟨"com/example/ferrybus/ferrybus/codec/PacketType", "allows", "(I)Z"⟩ : MethodName) prog_32_method_5_code 2 (some .boolean) ws ({ frames := 0, cells := 0, slots := 0, locals := 0 } : Room) #[(.ref (A 5)), (.int ((240 : Int32) &&& (15 : Int32)))] h0 (fun v_ h_ L_ => v_ = some (.int (1 : Int32)) ∧ Fr Z.heap.size L_ ∧ h_ = h0) := by
  refine own_body (plainFor_of_name pn_1) fun p e s m below meth c s₁ hx hby hml hown hnm hlk hrt hZ X0 e0 => ?_
  have N0 := Fr.nil Z.heap.size
  have hW' := hW
  obtain ⟨-, -, -, -, -, -, -, -, -, -, -, -, -, -, -, -, -, -, -, -, -, -, -, -, -, -, -, -, -, -, -, -, -, -, -, -, -, -, -, -, -, -, -, F_AUTH_flags, -, -, -, -, -, -, -, -, -, -, -, -, -, -, -, -, -, -⟩ := hW'
  refine own_go (B := s₁.setTop (mkF m 0 #[.val (.ref (A 5)), .val (.int ((240 : Int32) &&& (15 : Int32)))] [])) (fun t k => castTop (ef_3 m (A 5) ((240 : Int32) &&& (15 : Int32))) k) ?_
  refine own_go (B := s₁.setTop (mkF m 1 #[.val (.ref (A 5)), .val (.int ((240 : Int32) &&& (15 : Int32)))] [(.ref (A 5))])) (fun _ k => XS.aloadN X0.here hx rfl (hb hby d3_0) rfl rfl k) ?_
  obtain ⟨T1, X1, e1, st1⟩ := getF X0 hx hZ hown (host := "") (Or.inl (hw _ (List.mem_of_getElem? (i := 11) rfl))) Via.refl e0 (F_AUTH_flags.ext x0) (g := (mkF m 1 #[.val (.ref (A 5)), .val (.int ((240 : Int32) &&& (15 : Int32)))] [(.ref (A 5))])) rfl rfl (hb hby d3_1)
  refine own_go (B := T1.setTop (mkF m 4 #[.val (.ref (A 5)), .val (.int ((240 : Int32) &&& (15 : Int32)))] [(.int (0 : Int32))])) st1 ?_
  refine own_go (B := T1.setTop (mkF m 5 #[.val (.ref (A 5)), .val (.int ((240 : Int32) &&& (15 : Int32)))] [(.int (-1 : Int32)), (.int (0 : Int32))])) (fun _ k => XT.iconstV X1.here hx rfl (-1 : Int32) (hb hby d3_4) rfl k) ?_
  refine own_go (B := T1.setTop (mkF m 8 #[.val (.ref (A 5)), .val (.int ((240 : Int32) &&& (15 : Int32)))] [])) (fun _ k => XS.icmpNo X1.here hx rfl (hb hby d3_5) rfl (by decide) k) ?_
  refine own_go (B := T1.setTop (mkF m 9 #[.val (.ref (A 5)), .val (.int ((240 : Int32) &&& (15 : Int32)))] [(.ref (A 5))])) (fun _ k => XS.aloadN X1.here hx rfl (hb hby d3_8) rfl rfl k) ?_
  obtain ⟨T2, X2, e2, st2⟩ := getF X1 hx hZ hown (host := "") (Or.inl (hw _ (List.mem_of_getElem? (i := 11) rfl))) Via.refl e1 (F_AUTH_flags.ext x0) (g := (mkF m 9 #[.val (.ref (A 5)), .val (.int ((240 : Int32) &&& (15 : Int32)))] [(.ref (A 5))])) rfl rfl (hb hby d3_9)
  refine own_go (B := T2.setTop (mkF m 12 #[.val (.ref (A 5)), .val (.int ((240 : Int32) &&& (15 : Int32)))] [(.int (0 : Int32))])) st2 ?_
  refine own_go (B := T2.setTop (mkF m 13 #[.val (.ref (A 5)), .val (.int ((240 : Int32) &&& (15 : Int32)))] [(.int ((240 : Int32) &&& (15 : Int32))), (.int (0 : Int32))])) (fun _ k => XS.iloadN X2.here hx rfl (hb hby d3_12) rfl k) ?_
  refine own_go (B := T2.setTop (mkF m 16 #[.val (.ref (A 5)), .val (.int ((240 : Int32) &&& (15 : Int32)))] [])) (fun _ k => XS.icmpNo X2.here hx rfl (hb hby d3_13) rfl (by decide +kernel) k) ?_
  refine own_go (B := T2.setTop (mkF m 17 #[.val (.ref (A 5)), .val (.int ((240 : Int32) &&& (15 : Int32)))] [(.int (1 : Int32))])) (fun _ k => XT.iconstV X2.here hx rfl (1 : Int32) (hb hby d3_16) rfl k) ?_
  refine own_go (B := T2.setTop (mkF m 21 #[.val (.ref (A 5)), .val (.int ((240 : Int32) &&& (15 : Int32)))] [(.int (1 : Int32))])) (fun _ k => XS.goto X2.here hx rfl (pc0 := 17) (pc' := 21) rfl (hb hby d3_17) (by decide) (by decide) k) ?_
  exact own_ret X2 hx (t := .boolean) hrt rfl (Or.inl ⟨rfl, by simp, _, rfl⟩) (hb hby d3_21) hlk ⟨rfl, N0, e2⟩ (by decide) (by decide)
set_option maxRecDepth 65536 in
set_option maxHeartbeats 40000000 in
theorem rm0 (l : Launch) (Z : State) (a0 : Array Value) (hw : ∀ d ∈ tables_1, d.before a0 Z = true) (ws : List Jvm.Cond) (p0 : Int32) (A : Nat → Addr) (hW : own_W Z A) (h0 : Heap) (x0 : Ext Z.heap h0)  :
    own_Met l Z x code maxLocals ret ws room_1 #[(.int p0)] h0 (fun v_ h_ L_ => v_ = some (.int (1 : Int32)) ∧ Fr Z.heap.size L_) := by
  refine own_body (plainFor_of_name pn_0) fun p e s m below meth c s₁ hx hby hml hown hnm hlk hrt hZ X0 e0 => ?_
  have N0 := Fr.nil Z.heap.size
  have hW' := hW
  obtain ⟨S_CONNECT, E_CONNECT, S_PUBACK, E_PUBACK, S_PUBREL, E_PUBREL, S_DISCONNECT, E_DISCONNECT, S_PUBCOMP, E_PUBCOMP, S_AUTH, E_AUTH, S_SUBSCRIBE, E_SUBSCRIBE, S_PUBLISH, E_PUBLISH, S_PINGREQ, E_PINGREQ, S_UNSUBACK, E_UNSUBACK, S_SUBACK, E_SUBACK, S_CONNACK, E_CONNACK, S_PINGRESP, E_PINGRESP, S_PUBREC, E_PUBREC, S_UNSUBSCRIBE, E_UNSUBSCRIBE, -, -, -, -, -, -, -, -, -, -, -, -, -, -, -, -, -, -, -, -, -, -, -, -, -, -, -, -, -, -, -, -⟩ := hW'
  refine own_go (B := s₁.setTop (mkF m 0 #[.val (.int p0), .unset, .unset, .unset, .unset] [])) (fun t k => castTop (ef_0 m p0) k) ?_
  refine own_go (B := s₁.setTop (mkF m 1 #[.val (.int p0), .unset, .unset, .unset, .unset] [(.int p0)])) (fun _ k => XS.iloadN X0.here hx rfl (hb hby at_0) rfl k) ?_
  refine own_go (B := s₁.setTop (mkF m 3 #[.val (.int p0), .unset, .unset, .unset, .unset] [(.int (2147483647 : Int32)), (.int p0)])) (fun _ k => Jvm.Stand.ldcI X0 hx hown (mvT hZ (hw _ (List.mem_of_getElem? (i := 0) rfl))) (g := (mkF m 1 #[.val (.int p0), .unset, .unset, .unset, .unset] [(.int p0)])) rfl (hb hby at_1) k) ?_
  refine own_go (B := s₁.setTop (mkF m 4 #[.val (.int p0), .unset, .unset, .unset, .unset] [(.int (p0 &&& (2147483647 : Int32)))])) (fun _ k => XS.iand X0.here hx rfl (hb hby at_3) rfl k) ?_
  refine own_go (B := s₁.setTop (mkF m 6 #[.val (.int p0), .unset, .unset, .unset, .unset] [(.int (15 : Int32)), (.int (p0 &&& (2147483647 : Int32)))])) (fun _ k => XT.bipushV X0.here hx rfl (15 : Int32) (hb hby at_4) (by decide) k) ?_
  refine own_go (B := s₁.setTop (mkF m 7 #[.val (.int p0), .unset, .unset, .unset, .unset] [(.int ((p0 &&& (2147483647 : Int32)) % (15 : Int32)))])) (fun _ k => iremM (g := (mkF m 6 #[.val (.int p0), .unset, .unset, .unset, .unset] [(.int (15 : Int32)), (.int (p0 &&& (2147483647 : Int32)))])) X0 hx rfl (hb hby at_6) rfl (by decide) k) ?_
  refine own_go (B := s₁.setTop (mkF m 8 #[.val (.int p0), .val (.int ((p0 &&& (2147483647 : Int32)) % (15 : Int32))), .unset, .unset, .unset] [])) (fun _ k => XS.istoreN X0.here hx rfl (hb hby at_7) rfl (l' := #[.val (.int p0), .val (.int ((p0 &&& (2147483647 : Int32)) % (15 : Int32))), .unset, .unset, .unset]) rfl k) ?_
  obtain ⟨ip0, hip0⟩ : ∃ z : Int32, ((p0 &&& (2147483647 : Int32)) % (15 : Int32)) = z := ⟨_, rfl⟩
  rw [hip0]
  have hcs := own_c15 p0
  rw [hip0] at hcs
  rcases hcs with rfl | rfl | rfl | rfl | rfl | rfl | rfl | rfl | rfl | rfl | rfl | rfl | rfl | rfl | rfl
  · refine own_go (B := s₁.setTop (mkF m 9 #[.val (.int p0), .val (.int (0 : Int32)), .unset, .unset, .unset] [(.int (0 : Int32))])) (fun _ k => XS.iloadN X0.here hx rfl (hb hby at_8) rfl k) ?_
    refine own_go (B := s₁.setTop (mkF m 12 #[.val (.int p0), .val (.int (0 : Int32)), .unset, .unset, .unset] [])) (fun _ k => XS.ifNo X0.here hx rfl (hb hby at_9) rfl (by decide) k) ?_
    obtain ⟨T1, X1, e1, st1⟩ := getS2 X0 hx hZ hown (host := "") (Or.inl (hw _ (List.mem_of_getElem? (i := 1) rfl))) Via.refl e0 (S_CONNECT.ext x0) (g := (mkF m 12 #[.val (.int p0), .val (.int (0 : Int32)), .unset, .unset, .unset] [])) rfl (hb hby at_12)
    refine own_go (B := T1.setTop (mkF m 15 #[.val (.int p0), .val (.int (0 : Int32)), .unset, .unset, .unset] [(.ref (A 0))])) st1 ?_
    refine own_go (B := T1.setTop (mkF m 16 #[.val (.int p0), .val (.int (0 : Int32)), .val (.ref (A 0)), .unset, .unset] [])) (fun _ k => XS.astoreN X1.here hx rfl (hb hby at_15) rfl rfl (l' := #[.val (.int p0), .val (.int (0 : Int32)), .val (.ref (A 0)), .unset, .unset]) rfl k) ?_
    refine own_go (B := T1.setTop (mkF m 18 #[.val (.int p0), .val (.int (0 : Int32)), .val (.ref (A 0)), .unset, .unset] [(.int (16 : Int32))])) (fun _ k => XT.bipushV X1.here hx rfl (16 : Int32) (hb hby at_16) (by decide) k) ?_
    refine own_go (B := T1.setTop (mkF m 19 #[.val (.int p0), .val (.int (0 : Int32)), .val (.ref (A 0)), .val (.int (16 : Int32)), .unset] [])) (fun _ k => XS.istoreN X1.here hx rfl (hb hby at_18) rfl (l' := #[.val (.int p0), .val (.int (0 : Int32)), .val (.ref (A 0)), .val (.int (16 : Int32)), .unset]) rfl k) ?_
    refine own_go (B := T1.setTop (mkF m 240 #[.val (.int p0), .val (.int (0 : Int32)), .val (.ref (A 0)), .val (.int (16 : Int32)), .unset] [])) (fun _ k => XS.goto X1.here hx rfl (pc0 := 19) (pc' := 240) rfl (hb hby at_19) (by decide) (by decide) k) ?_
    refine own_go (B := T1.setTop (mkF m 241 #[.val (.int p0), .val (.int (0 : Int32)), .val (.ref (A 0)), .val (.int (16 : Int32)), .unset] [(.ref (A 0))])) (fun _ k => XS.aloadN X1.here hx rfl (hb hby at_240) rfl rfl k) ?_
    obtain ⟨cq2, kq2, q2a, q2b, q2c⟩ := isOf hZ e1 (E_CONNECT.ext x0)
    obtain ⟨_, _, ⟨T2, L2, k2, n2⟩, -, X2, ⟨Lc2, hQ2, l2, y2, z2⟩, st2⟩ := X1.virtualBack hx (y := (⟨"com/example/ferrybus/ferrybus/codec/PacketType", "firstByte", "()I"⟩ : MethodName)) (z := (⟨"com/example/ferrybus/ferrybus/codec/PacketType", "firstByte", "()I"⟩ : MethodName)) hown (mvT hZ (hw _ (List.mem_of_getElem? (i := 4) rfl))) (mvT hZ (hw _ (List.mem_of_getElem? (i := 5) rfl))) (notFace_of_selects (args := #[]) (mvT hZ (hw _ (List.mem_of_getElem? (i := 7) rfl)))) (mvT hZ (hw _ (List.mem_of_getElem? (i := 7) rfl))) (mvT hZ (hw _ (List.mem_of_getElem? (i := 6) rfl))) (by decide) (own_back (W := 0) (rm1_0 l Z a0 hw []  A hW h0 x0 ) hZ (hw _ (List.mem_of_getElem? (i := 8) rfl)) (hw _ (List.mem_of_getElem? (i := 2) rfl)) (by decide) (by decide)) q2a q2c (g := (mkF m 241 #[.val (.int p0), .val (.int (0 : Int32)), .val (.ref (A 0)), .val (.int (16 : Int32)), .unset] [(.ref (A 0))])) rfl (by rw [hml]; rfl) (Steps.refl _) (argsL := []) (rest := []) (lenOf pd_0 rfl) rfl (by show 2 * 0 + _ ≤ _; exact Nat.le_of_eq rfl) (hb hby at_241) (fun _ _ => ⟨rfl, e1, (by decide : 0 + 0 ≤ _), (by decide : 0 + 0 ≤ _)⟩)
    dsimp only [Pt.U, Pt.locs, Pt.cells, Pt.slots] at X2 l2 y2 z2 st2 hQ2
    subst l2 y2 z2
    obtain ⟨rfl, N2q, e2⟩ := hQ2
    have N2 := Fr.app N0 N2q
    refine own_go (B := T2.setTop (mkF m 244 #[.val (.int p0), .val (.int (0 : Int32)), .val (.ref (A 0)), .val (.int (16 : Int32)), .unset] [(.int (16 : Int32))])) (fun _ k => st2.trans k) ?_
    refine own_go (B := T2.setTop (mkF m 246 #[.val (.int p0), .val (.int (0 : Int32)), .val (.ref (A 0)), .val (.int (16 : Int32)), .val (.int (16 : Int32))] [])) (fun _ k => XS.istore X2.here hx rfl (hb hby at_244) rfl (l' := #[.val (.int p0), .val (.int (0 : Int32)), .val (.ref (A 0)), .val (.int (16 : Int32)), .val (.int (16 : Int32))]) rfl k) ?_
    refine own_go (B := T2.setTop (mkF m 248 #[.val (.int p0), .val (.int (0 : Int32)), .val (.ref (A 0)), .val (.int (16 : Int32)), .val (.int (16 : Int32))] [(.int (16 : Int32))])) (fun _ k => XS.iload X2.here hx rfl (hb hby at_246) rfl k) ?_
    refine own_go (B := T2.setTop (mkF m 249 #[.val (.int p0), .val (.int (0 : Int32)), .val (.ref (A 0)), .val (.int (16 : Int32)), .val (.int (16 : Int32))] [(.int (16 : Int32)), (.int (16 : Int32))])) (fun _ k => XS.iloadN X2.here hx rfl (hb hby at_248) rfl k) ?_
    refine own_go (B := T2.setTop (mkF m 254 #[.val (.int p0), .val (.int (0 : Int32)), .val (.ref (A 0)), .val (.int (16 : Int32)), .val (.int (16 : Int32))] [])) (fun _ k => XS.icmpYes X2.here hx rfl (pc0 := 249) (pc' := 254) rfl (hb hby at_249) rfl (by decide) (by decide) (by decide) k) ?_
    refine own_go (B := T2.setTop (mkF m 256 #[.val (.int p0), .val (.int (0 : Int32)), .val (.ref (A 0)), .val (.int (16 : Int32)), .val (.int (16 : Int32))] [(.int (16 : Int32))])) (fun _ k => XS.iload X2.here hx rfl (hb hby at_254) rfl k) ?_
    obtain ⟨_, _, ⟨T3, L3, k3, n3⟩, -, X3, ⟨Lc3, hQ3, l3, y3, z3⟩, st3⟩ := Jvm.LawKit.callS X2 hx (y := (⟨"com/example/ferrybus/ferrybus/codec/PacketType", "of", "(I)Lcom/example/ferrybus/ferrybus/codec/PacketType;"⟩ : MethodName)) hown (mvT hZ (hw _ (List.mem_of_getElem? (i := 13) rfl))) (mvT hZ (hw _ (List.mem_of_getElem? (i := 14) rfl))) (mvT hZ (hw _ (List.mem_of_getElem? (i := 2) rfl))) (mvT hZ (hw _ (List.mem_of_getElem? (i := 15) rfl))) (by decide) (own_back (W := 0) (rm2_0 l Z a0 hw []  A hW h0 x0 ) hZ (hw _ (List.mem_of_getElem? (i := 15) rfl)) (hw _ (List.mem_of_getElem? (i := 2) rfl)) (by decide) (by decide)) (g := (mkF m 256 #[.val (.int p0), .val (.int (0 : Int32)), .val (.ref (A 0)), .val (.int (16 : Int32)), .val (.int (16 : Int32))] [(.int (16 : Int32))])) rfl (by rw [hml]; rfl) (argsL := [(.int (16 : Int32))]) (rest := []) (lenOf pd_1 rfl) rfl (by show 2 * 0 + _ ≤ _; exact Nat.le_of_eq rfl) (hb hby at_256) (fun _ _ => ⟨rfl, e2, (by decide : 0 + 0 ≤ _), (by decide : 0 + 0 ≤ _)⟩)
    dsimp only [Pt.U, Pt.locs, Pt.cells, Pt.slots] at X3 l3 y3 z3 st3 hQ3
    subst l3 y3 z3
    obtain ⟨rfl, N3q, e3⟩ := hQ3
    have N3 := Fr.app N2 N3q
    refine own_go (B := T3.setTop (mkF m 259 #[.val (.int p0), .val (.int (0 : Int32)), .val (.ref (A 0)), .val (.int (16 : Int32)), .val (.int (16 : Int32))] [(.ref (A 0))])) st3 ?_
    refine own_go (B := T3.setTop (mkF m 260 #[.val (.int p0), .val (.int (0 : Int32)), .val (.ref (A 0)), .val (.int (16 : Int32)), .val (.int (16 : Int32))] [(.ref (A 0)), (.ref (A 0))])) (fun _ k => XS.aloadN X3.here hx rfl (hb hby at_259) rfl rfl k) ?_
    refine own_go (B := T3.setTop (mkF m 263 #[.val (.int p0), .val (.int (0 : Int32)), .val (.ref (A 0)), .val (.int (16 : Int32)), .val (.int (16 : Int32))] [])) (fun _ k => Jvm.RoadKit.acmp (g := (mkF m 260 #[.val (.int p0), .val (.int (0 : Int32)), .val (.ref (A 0)), .val (.int (16 : Int32)), .val (.int (16 : Int32))] [(.ref (A 0)), (.ref (A 0))])) X3 hx rfl rfl rfl (pc0 := 260) (pc' := 263) (same := true) rfl (hb hby at_260) rfl (decide_eq_true rfl) (by decide) (by decide) k) ?_
    refine own_go (B := T3.setTop (mkF m 264 #[.val (.int p0), .val (.int (0 : Int32)), .val (.ref (A 0)), .val (.int (16 : Int32)), .val (.int (16 : Int32))] [(.ref (A 0))])) (fun _ k => XS.aloadN X3.here hx rfl (hb hby at_263) rfl rfl k) ?_
    refine own_go (B := T3.setTop (mkF m 266 #[.val (.int p0), .val (.int (0 : Int32)), .val (.ref (A 0)), .val (.int (16 : Int32)), .val (.int (16 : Int32))] [(.int (16 : Int32)), (.ref (A 0))])) (fun _ k => XS.iload X3.here hx rfl (hb hby at_264) rfl k) ?_
    refine own_go (B := T3.setTop (mkF m 268 #[.val (.int p0), .val (.int (0 : Int32)), .val (.ref (A 0)), .val (.int (16 : Int32)), .val (.int (16 : Int32))] [(.int (15 : Int32)), (.int (16 : Int32)), (.ref (A 0))])) (fun _ k => XT.bipushV X3.here hx rfl (15 : Int32) (hb hby at_266) (by decide) k) ?_
    refine own_go (B := T3.setTop (mkF m 269 #[.val (.int p0), .val (.int (0 : Int32)), .val (.ref (A 0)), .val (.int (16 : Int32)), .val (.int (16 : Int32))] [(.int ((16 : Int32) &&& (15 : Int32))), (.ref (A 0))])) (fun _ k => XS.iand X3.here hx rfl (hb hby at_268) rfl k) ?_
    obtain ⟨cq4, kq4, q4a, q4b, q4c⟩ := isOf hZ e3 (E_CONNECT.ext x0)
    obtain ⟨_, _, ⟨T4, L4, k4, n4⟩, -, X4, ⟨Lc4, hQ4, l4, y4, z4⟩, st4⟩ := X3.virtualBack hx (y := (⟨"com/example/ferrybus/ferrybus/codec/PacketType", "allows", "(I)Z"⟩ : MethodName)) (z := (⟨"com/example/ferrybus/ferrybus/codec/PacketType", "allows", "(I)Z"⟩ : MethodName)) hown (mvT hZ (hw _ (List.mem_of_getElem? (i := 18) rfl))) (mvT hZ (hw _ (List.mem_of_getElem? (i := 19) rfl))) (notFace_of_selects (args := #[]) (mvT hZ (hw _ (List.mem_of_getElem? (i := 21) rfl)))) (mvT hZ (hw _ (List.mem_of_getElem? (i := 21) rfl))) (mvT hZ (hw _ (List.mem_of_getElem? (i := 20) rfl))) (by decide) (own_back (W := 0) (rm3_0 l Z a0 hw []  A hW h0 x0 ) hZ (hw _ (List.mem_of_getElem? (i := 22) rfl)) (hw _ (List.mem_of_getElem? (i := 2) rfl)) (by decide) (by decide)) q4a q4c (g := (mkF m 269 #[.val (.int p0), .val (.int (0 : Int32)), .val (.ref (A 0)), .val (.int (16 : Int32)), .val (.int (16 : Int32))] [(.int ((16 : Int32) &&& (15 : Int32))), (.ref (A 0))])) rfl (by rw [hml]; rfl) (Steps.refl _) (argsL := [(.int ((16 : Int32) &&& (15 : Int32)))]) (rest := []) (lenOf pd_2 rfl) rfl (by show 2 * 0 + _ ≤ _; exact Nat.le_of_eq rfl) (hb hby at_269) (fun _ _ => ⟨rfl, e3, (by decide : 0 + 0 ≤ _), (by decide : 0 + 0 ≤ _)⟩)
    dsimp only [Pt.U, Pt.locs, Pt.cells, Pt.slots] at X4 l4 y4 z4 st4 hQ4
    subst l4 y4 z4
    obtain ⟨rfl, N4q, e4⟩ := hQ4
    have N4 := Fr.app N3 N4q
    refine own_go (B := T4.setTop (mkF m 272 #[.val (.int p0), .val (.int (0 : Int32)), .val (.ref (A 0)), .val (.int (16 : Int32)), .val (.int (16 : Int32))] [(.int (1 : Int32))])) (fun _ k => st4.trans k) ?_
    refine own_go (B := T4.setTop (mkF m 275 #[.val (.int p0), .val (.int (0 : Int32)), .val (.ref (A 0)), .val (.int (16 : Int32)), .val (.int (16 : Int32))] [])) (fun _ k => XS.ifNo X4.here hx rfl (hb hby at_272) rfl (by decide) k) ?_
    refine own_go (B := T4.setTop (mkF m 276 #[.val (.int p0), .val (.int (0 : Int32)), .val (.ref (A 0)), .val (.int (16 : Int32)), .val (.int (16 : Int32))] [(.int (1 : Int32))])) (fun _ k => XT.iconstV X4.here hx rfl (1 : Int32) (hb hby at_275) rfl k) ?_
    refine own_go (B := T4.setTop (mkF m 280 #[.val (.int p0), .val (.int (0 : Int32)), .val (.ref (A 0)), .val (.int (16 : Int32)), .val (.int (16 : Int32))] [(.int (1 : Int32))])) (fun _ k => XS.goto X4.here hx rfl (pc0 := 276) (pc' := 280) rfl (hb hby at_276) (by decide) (by decide) k) ?_
    exact own_ret X4 hx (t := .boolean) hrt rfl (Or.inl ⟨rfl, by simp, _, rfl⟩) (hb hby at_280) hlk ⟨rfl, N4⟩ (by decide) (by decide)
  · refine own_go (B := s₁.setTop (mkF m 9 #[.val (.int p0), .val (.int (1 : Int32)), .unset, .unset, .unset] [(.int (1 : Int32))])) (fun _ k => XS.iloadN X0.here hx rfl (hb hby at_8) rfl k) ?_
    refine own_go (B := s₁.setTop (mkF m 22 #[.val (.int p0), .val (.int (1 : Int32)), .unset, .unset, .unset] [])) (fun _ k => XS.ifYes X0.here hx rfl (pc0 := 9) (pc' := 22) rfl (hb hby at_9) rfl (by decide) (by decide) (by decide) k) ?_
    refine own_go (B := s₁.setTop (mkF m 23 #[.val (.int p0), .val (.int (1 : Int32)), .unset, .unset, .unset] [(.int (1 : Int32))])) (fun _ k => XS.iloadN X0.here hx rfl (hb hby at_22) rfl k) ?_
    refine own_go (B := s₁.setTop (mkF m 24 #[.val (.int p0), .val (.int (1 : Int32)), .unset, .unset, .unset] [(.int (1 : Int32)), (.int (1 : Int32))])) (fun _ k => XT.iconstV X0.here hx rfl (1 : Int32) (hb hby at_23) rfl k) ?_
    refine own_go (B := s₁.setTop (mkF m 27 #[.val (.int p0), .val (.int (1 : Int32)), .unset, .unset, .unset] [])) (fun _ k => XS.icmpNo X0.here hx rfl (hb hby at_24) rfl (by decide) k) ?_
    obtain ⟨T5, X5, e5, st5⟩ := getS2 X0 hx hZ hown (host := "") (Or.inl (hw _ (List.mem_of_getElem? (i := 43) rfl))) Via.refl e0 (S_CONNACK.ext x0) (g := (mkF m 27 #[.val (.int p0), .val (.int (1 : Int32)), .unset, .unset, .unset] [])) rfl (hb hby at_27)
    refine own_go (B := T5.setTop (mkF m 30 #[.val (.int p0), .val (.int (1 : Int32)), .unset, .unset, .unset] [(.ref (A 11))])) st5 ?_
    refine own_go (B := T5.setTop (mkF m 31 #[.val (.int p0), .val (.int (1 : Int32)), .val (.ref (A 11)), .unset, .unset] [])) (fun _ k => XS.astoreN X5.here hx rfl (hb hby at_30) rfl rfl (l' := #[.val (.int p0), .val (.int (1 : Int32)), .val (.ref (A 11)), .unset, .unset]) rfl k) ?_
    refine own_go (B := T5.setTop (mkF m 33 #[.val (.int p0), .val (.int (1 : Int32)), .val (.ref (A 11)), .unset, .unset] [(.int (32 : Int32))])) (fun _ k => XT.bipushV X5.here hx rfl (32 : Int32) (hb hby at_31) (by decide) k) ?_
    refine own_go (B := T5.setTop (mkF m 34 #[.val (.int p0), .val (.int (1 : Int32)), .val (.ref (A 11)), .val (.int (32 : Int32)), .unset] [])) (fun _ k => XS.istoreN X5.here hx rfl (hb hby at_33) rfl (l' := #[.val (.int p0), .val (.int (1 : Int32)), .val (.ref (A 11)), .val (.int (32 : Int32)), .unset]) rfl k) ?_
    refine own_go (B := T5.setTop (mkF m 240 #[.val (.int p0), .val (.int (1 : Int32)), .val (.ref (A 11)), .val (.int (32 : Int32)), .unset] [])) (fun _ k => XS.goto X5.here hx rfl (pc0 := 34) (pc' := 240) rfl (hb hby at_34) (by decide) (by decide) k) ?_
    refine own_go (B := T5.setTop (mkF m 241 #[.val (.int p0), .val (.int (1 : Int32)), .val (.ref (A 11)), .val (.int (32 : Int32)), .unset] [(.ref (A 11))])) (fun _ k => XS.aloadN X5.here hx rfl (hb hby at_240) rfl rfl k) ?_
    obtain ⟨cq6, kq6, q6a, q6b, q6c⟩ := isOf hZ e5 (E_CONNACK.ext x0)
    obtain ⟨_, _, ⟨T6, L6, k6, n6⟩, -, X6, ⟨Lc6, hQ6, l6, y6, z6⟩, st6⟩ := X5.virtualBack hx (y := (⟨"com/example/ferrybus/ferrybus/codec/PacketType", "firstByte", "()I"⟩ : MethodName)) (z := (⟨"com/example/ferrybus/ferrybus/codec/PacketType", "firstByte", "()I"⟩ : MethodName)) hown (mvT hZ (hw _ (List.mem_of_getElem? (i := 4) rfl))) (mvT hZ (hw _ (List.mem_of_getElem? (i := 5) rfl))) (notFace_of_selects (args := #[]) (mvT hZ (hw _ (List.mem_of_getElem? (i := 7) rfl)))) (mvT hZ (hw _ (List.mem_of_getElem? (i := 7) rfl))) (mvT hZ (hw _ (List.mem_of_getElem? (i := 6) rfl))) (by decide) (own_back (W := 0) (rm1_1 l Z a0 hw []  A hW h0 x0 ) hZ (hw _ (List.mem_of_getElem? (i := 8) rfl)) (hw _ (List.mem_of_getElem? (i := 2) rfl)) (by decide) (by decide)) q6a q6c (g := (mkF m 241 #[.val (.int p0), .val (.int (1 : Int32)), .val (.ref (A 11)), .val (.int (32 : Int32)), .unset] [(.ref (A 11))])) rfl (by rw [hml]; rfl) (Steps.refl _) (argsL := []) (rest := []) (lenOf pd_0 rfl) rfl (by show 2 * 0 + _ ≤ _; exact Nat.le_of_eq rfl) (hb hby at_241) (fun _ _ => ⟨rfl, e5, (by decide : 0 + 0 ≤ _), (by decide : 0 + 0 ≤ _)⟩)
    dsimp only [Pt.U, Pt.locs, Pt.cells, Pt.slots] at X6 l6 y6 z6 st6 hQ6
    subst l6 y6 z6
    obtain ⟨rfl, N6q, e6⟩ := hQ6
    have N6 := Fr.app N0 N6q
    refine own_go (B := T6.setTop (mkF m 244 #[.val (.int p0), .val (.int (1 : Int32)), .val (.ref (A 11)), .val (.int (32 : Int32)), .unset] [(.int (32 : Int32))])) (fun _ k => st6.trans k) ?_
    refine own_go (B := T6.setTop (mkF m 246 #[.val (.int p0), .val (.int (1 : Int32)), .val (.ref (A 11)), .val (.int (32 : Int32)), .val (.int (32 : Int32))] [])) (fun _ k => XS.istore X6.here hx rfl (hb hby at_244) rfl (l' := #[.val (.int p0), .val (.int (1 : Int32)), .val (.ref (A 11)), .val (.int (32 : Int32)), .val (.int (32 : Int32))]) rfl k) ?_
    refine own_go (B := T6.setTop (mkF m 248 #[.val (.int p0), .val (.int (1 : Int32)), .val (.ref (A 11)), .val (.int (32 : Int32)), .val (.int (32 : Int32))] [(.int (32 : Int32))])) (fun _ k => XS.iload X6.here hx rfl (hb hby at_246) rfl k) ?_
    refine own_go (B := T6.setTop (mkF m 249 #[.val (.int p0), .val (.int (1 : Int32)), .val (.ref (A 11)), .val (.int (32 : Int32)), .val (.int (32 : Int32))] [(.int (32 : Int32)), (.int (32 : Int32))])) (fun _ k => XS.iloadN X6.here hx rfl (hb hby at_248) rfl k) ?_
    refine own_go (B := T6.setTop (mkF m 254 #[.val (.int p0), .val (.int (1 : Int32)), .val (.ref (A 11)), .val (.int (32 : Int32)), .val (.int (32 : Int32))] [])) (fun _ k => XS.icmpYes X6.here hx rfl (pc0 := 249) (pc' := 254) rfl (hb hby at_249) rfl (by decide) (by decide) (by decide) k) ?_
    refine own_go (B := T6.setTop (mkF m 256 #[.val (.int p0), .val (.int (1 : Int32)), .val (.ref (A 11)), .val (.int (32 : Int32)), .val (.int (32 : Int32))] [(.int (32 : Int32))])) (fun _ k => XS.iload X6.here hx rfl (hb hby at_254) rfl k) ?_
    obtain ⟨_, _, ⟨T7, L7, k7, n7⟩, -, X7, ⟨Lc7, hQ7, l7, y7, z7⟩, st7⟩ := Jvm.LawKit.callS X6 hx (y := (⟨"com/example/ferrybus/ferrybus/codec/PacketType", "of", "(I)Lcom/example/ferrybus/ferrybus/codec/PacketType;"⟩ : MethodName)) hown (mvT hZ (hw _ (List.mem_of_getElem? (i := 13) rfl))) (mvT hZ (hw _ (List.mem_of_getElem? (i := 14) rfl))) (mvT hZ (hw _ (List.mem_of_getElem? (i := 2) rfl))) (mvT hZ (hw _ (List.mem_of_getElem? (i := 15) rfl))) (by decide) (own_back (W := 0) (rm2_1 l Z a0 hw []  A hW h0 x0 ) hZ (hw _ (List.mem_of_getElem? (i := 15) rfl)) (hw _ (List.mem_of_getElem? (i := 2) rfl)) (by decide) (by decide)) (g := (mkF m 256 #[.val (.int p0), .val (.int (1 : Int32)), .val (.ref (A 11)), .val (.int (32 : Int32)), .val (.int (32 : Int32))] [(.int (32 : Int32))])) rfl (by rw [hml]; rfl) (argsL := [(.int (32 : Int32))]) (rest := []) (lenOf pd_1 rfl) rfl (by show 2 * 0 + _ ≤ _; exact Nat.le_of_eq rfl) (hb hby at_256) (fun _ _ => ⟨rfl, e6, (by decide : 0 + 0 ≤ _), (by decide : 0 + 0 ≤ _)⟩)
    dsimp only [Pt.U, Pt.locs, Pt.cells, Pt.slots] at X7 l7 y7 z7 st7 hQ7
    subst l7 y7 z7
    obtain ⟨rfl, N7q, e7⟩ := hQ7
    have N7 := Fr.app N6 N7q
    refine own_go (B := T7.setTop (mkF m 259 #[.val (.int p0), .val (.int (1 : Int32)), .val (.ref (A 11)), .val (.int (32 : Int32)), .val (.int (32 : Int32))] [(.ref (A 11))])) st7 ?_
    refine own_go (B := T7.setTop (mkF m 260 #[.val (.int p0), .val (.int (1 : Int32)), .val (.ref (A 11)), .val (.int (32 : Int32)), .val (.int (32 : Int32))] [(.ref (A 11)), (.ref (A 11))])) (fun _ k => XS.aloadN X7.here hx rfl (hb hby at_259) rfl rfl k) ?_
    refine own_go (B := T7.setTop (mkF m 263 #[.val (.int p0), .val (.int (1 : Int32)), .val (.ref (A 11)), .val (.int (32 : Int32)), .val (.int (32 : Int32))] [])) (fun _ k => Jvm.RoadKit.acmp (g := (mkF m 260 #[.val (.int p0), .val (.int (1 : Int32)), .val (.ref (A 11)), .val (.int (32 : Int32)), .val (.int (32 : Int32))] [(.ref (A 11)), (.ref (A 11))])) X7 hx rfl rfl rfl (pc0 := 260) (pc' := 263) (same := true) rfl (hb hby at_260) rfl (decide_eq_true rfl) (by decide) (by decide) k) ?_
    refine own_go (B := T7.setTop (mkF m 264 #[.val (.int p0), .val (.int (1 : Int32)), .val (.ref (A 11)), .val (.int (32 : Int32)), .val (.int (32 : Int32))] [(.ref (A 11))])) (fun _ k => XS.aloadN X7.here hx rfl (hb hby at_263) rfl rfl k) ?_
    refine own_go (B := T7.setTop (mkF m 266 #[.val (.int p0), .val (.int (1 : Int32)), .val (.ref (A 11)), .val (.int (32 : Int32)), .val (.int (32 : Int32))] [(.int (32 : Int32)), (.ref (A 11))])) (fun _ k => XS.iload X7.here hx rfl (hb hby at_264) rfl k) ?_
    refine own_go (B := T7.setTop (mkF m 268 #[.val (.int p0), .val (.int (1 : Int32)), .val (.ref (A 11)), .val (.int (32 : Int32)), .val (.int (32 : Int32))] [(.int (15 : Int32)), (.int (32 : Int32)), (.ref (A 11))])) (fun _ k => XT.bipushV X7.here hx rfl (15 : Int32) (hb hby at_266) (by decide) k) ?_
    refine own_go (B := T7.setTop (mkF m 269 #[.val (.int p0), .val (.int (1 : Int32)), .val (.ref (A 11)), .val (.int (32 : Int32)), .val (.int (32 : Int32))] [(.int ((32 : Int32) &&& (15 : Int32))), (.ref (A 11))])) (fun _ k => XS.iand X7.here hx rfl (hb hby at_268) rfl k) ?_
    obtain ⟨cq8, kq8, q8a, q8b, q8c⟩ := isOf hZ e7 (E_CONNACK.ext x0)
    obtain ⟨_, _, ⟨T8, L8, k8, n8⟩, -, X8, ⟨Lc8, hQ8, l8, y8, z8⟩, st8⟩ := X7.virtualBack hx (y := (⟨"com/example/ferrybus/ferrybus/codec/PacketType", "allows", "(I)Z"⟩ : MethodName)) (z := (⟨"com/example/ferrybus/ferrybus/codec/PacketType", "allows", "(I)Z"⟩ : MethodName)) hown (mvT hZ (hw _ (List.mem_of_getElem? (i := 18) rfl))) (mvT hZ (hw _ (List.mem_of_getElem? (i := 19) rfl))) (notFace_of_selects (args := #[]) (mvT hZ (hw _ (List.mem_of_getElem? (i := 21) rfl)))) (mvT hZ (hw _ (List.mem_of_getElem? (i := 21) rfl))) (mvT hZ (hw _ (List.mem_of_getElem? (i := 20) rfl))) (by decide) (own_back (W := 0) (rm3_1 l Z a0 hw []  A hW h0 x0 ) hZ (hw _ (List.mem_of_getElem? (i := 22) rfl)) (hw _ (List.mem_of_getElem? (i := 2) rfl)) (by decide) (by decide)) q8a q8c (g := (mkF m 269 #[.val (.int p0), .val (.int (1 : Int32)), .val (.ref (A 11)), .val (.int (32 : Int32)), .val (.int (32 : Int32))] [(.int ((32 : Int32) &&& (15 : Int32))), (.ref (A 11))])) rfl (by rw [hml]; rfl) (Steps.refl _) (argsL := [(.int ((32 : Int32) &&& (15 : Int32)))]) (rest := []) (lenOf pd_2 rfl) rfl (by show 2 * 0 + _ ≤ _; exact Nat.le_of_eq rfl) (hb hby at_269) (fun _ _ => ⟨rfl, e7, (by decide : 0 + 0 ≤ _), (by decide : 0 + 0 ≤ _)⟩)
    dsimp only [Pt.U, Pt.locs, Pt.cells, Pt.slots] at X8 l8 y8 z8 st8 hQ8
    subst l8 y8 z8
    obtain ⟨rfl, N8q, e8⟩ := hQ8
    have N8 := Fr.app N7 N8q
    refine own_go (B := T8.setTop (mkF m 272 #[.val (.int p0), .val (.int (1 : Int32)), .val (.ref (A 11)), .val (.int (32 : Int32)), .val (.int (32 : Int32))] [(.int (1 : Int32))])) (fun _ k => st8.trans k) ?_
    refine own_go (B := T8.setTop (mkF m 275 #[.val (.int p0), .val (.int (1 : Int32)), .val (.ref (A 11)), .val (.int (32 : Int32)), .val (.int (32 : Int32))] [])) (fun _ k => XS.ifNo X8.here hx rfl (hb hby at_272) rfl (by decide) k) ?_
    refine own_go (B := T8.setTop (mkF m 276 #[.val (.int p0), .val (.int (1 : Int32)), .val (.ref (A 11)), .val (.int (32 : Int32)), .val (.int (32 : Int32))] [(.int (1 : Int32))])) (fun _ k => XT.iconstV X8.here hx rfl (1 : Int32) (hb hby at_275) rfl k) ?_
    refine own_go (B := T8.setTop (mkF m 280 #[.val (.int p0), .val (.int (1 : Int32)), .val (.ref (A 11)), .val (.int (32 : Int32)), .val (.int (32 : Int32))] [(.int (1 : Int32))])) (fun _ k => XS.goto X8.here hx rfl (pc0 := 276) (pc' := 280) rfl (hb hby at_276) (by decide) (by decide) k) ?_
    exact own_ret X8 hx (t := .boolean) hrt rfl (Or.inl ⟨rfl, by simp, _, rfl⟩) (hb hby at_280) hlk ⟨rfl, N8⟩ (by decide) (by decide)
  · refine own_go (B := s₁.setTop (mkF m 9 #[.val (.int p0), .val (.int (2 : Int32)), .unset, .unset, .unset] [(.int (2 : Int32))])) (fun _ k => XS.iloadN X0.here hx rfl (hb hby at_8) rfl k) ?_
    refine own_go (B := s₁.setTop (mkF m 22 #[.val (.int p0), .val (.int (2 : Int32)), .unset, .unset, .unset] [])) (fun _ k => XS.ifYes X0.here hx rfl (pc0 := 9) (pc' := 22) rfl (hb hby at_9) rfl (by decide) (by decide) (by decide) k) ?_
    refine own_go (B := s₁.setTop (mkF m 23 #[.val (.int p0), .val (.int (2 : Int32)), .unset, .unset, .unset] [(.int (2 : Int32))])) (fun _ k => XS.iloadN X0.here hx rfl (hb hby at_22) rfl k) ?_
    refine own_go (B := s₁.setTop (mkF m 24 #[.val (.int p0), .val (.int (2 : Int32)), .unset, .unset, .unset] [(.int (1 : Int32)), (.int (2 : Int32))])) (fun _ k => XT.iconstV X0.here hx rfl (1 : Int32) (hb hby at_23) rfl k) ?_
    refine own_go (B := s₁.setTop (mkF m 37 #[.val (.int p0), .val (.int (2 : Int32)), .unset, .unset, .unset] [])) (fun _ k => XS.icmpYes X0.here hx rfl (pc0 := 24) (pc' := 37) rfl (hb hby at_24) rfl (by decide) (by decide) (by decide) k) ?_
    refine own_go (B := s₁.setTop (mkF m 38 #[.val (.int p0), .val (.int (2 : Int32)), .unset, .unset, .unset] [(.int (2 : Int32))])) (fun _ k => XS.iloadN X0.here hx rfl (hb hby at_37) rfl k) ?_
    refine own_go (B := s₁.setTop (mkF m 39 #[.val (.int p0), .val (.int (2 : Int32)), .unset, .unset, .unset] [(.int (2 : Int32)), (.int (2 : Int32))])) (fun _ k => XT.iconstV X0.here hx rfl (2 : Int32) (hb hby at_38) rfl k) ?_
    refine own_go (B := s₁.setTop (mkF m 42 #[.val (.int p0), .val (.int (2 : Int32)), .unset, .unset, .unset] [])) (fun _ k => XS.icmpNo X0.here hx rfl (hb hby at_39) rfl (by decide) k) ?_
    obtain ⟨T9, X9, e9, st9⟩ := getS2 X0 hx hZ hown (host := "") (Or.inl (hw _ (List.mem_of_getElem? (i := 35) rfl))) Via.refl e0 (S_PUBLISH.ext x0) (g := (mkF m 42 #[.val (.int p0), .val (.int (2 : Int32)), .unset, .unset, .unset] [])) rfl (hb hby at_42)
    refine own_go (B := T9.setTop (mkF m 45 #[.val (.int p0), .val (.int (2 : Int32)), .unset, .unset, .unset] [(.ref (A 7))])) st9 ?_
    refine own_go (B := T9.setTop (mkF m 46 #[.val (.int p0), .val (.int (2 : Int32)), .val (.ref (A 7)), .unset, .unset] [])) (fun _ k => XS.astoreN X9.here hx rfl (hb hby at_45) rfl rfl (l' := #[.val (.int p0), .val (.int (2 : Int32)), .val (.ref (A 7)), .unset, .unset]) rfl k) ?_
    refine own_go (B := T9.setTop (mkF m 48 #[.val (.int p0), .val (.int (2 : Int32)), .val (.ref (A 7)), .unset, .unset] [(.int (48 : Int32))])) (fun _ k => XT.bipushV X9.here hx rfl (48 : Int32) (hb hby at_46) (by decide) k) ?_
    refine own_go (B := T9.setTop (mkF m 49 #[.val (.int p0), .val (.int (2 : Int32)), .val (.ref (A 7)), .val (.int (48 : Int32)), .unset] [])) (fun _ k => XS.istoreN X9.here hx rfl (hb hby at_48) rfl (l' := #[.val (.int p0), .val (.int (2 : Int32)), .val (.ref (A 7)), .val (.int (48 : Int32)), .unset]) rfl k) ?_
    refine own_go (B := T9.setTop (mkF m 240 #[.val (.int p0), .val (.int (2 : Int32)), .val (.ref (A 7)), .val (.int (48 : Int32)), .unset] [])) (fun _ k => XS.goto X9.here hx rfl (pc0 := 49) (pc' := 240) rfl (hb hby at_49) (by decide) (by decide) k) ?_
    refine own_go (B := T9.setTop (mkF m 241 #[.val (.int p0), .val (.int (2 : Int32)), .val (.ref (A 7)), .val (.int (48 : Int32)), .unset] [(.ref (A 7))])) (fun _ k => XS.aloadN X9.here hx rfl (hb hby at_240) rfl rfl k) ?_
    obtain ⟨cq10, kq10, q10a, q10b, q10c⟩ := isOf hZ e9 (E_PUBLISH.ext x0)
    obtain ⟨_, _, ⟨T10, L10, k10, n10⟩, -, X10, ⟨Lc10, hQ10, l10, y10, z10⟩, st10⟩ := X9.virtualBack hx (y := (⟨"com/example/ferrybus/ferrybus/codec/PacketType", "firstByte", "()I"⟩ : MethodName)) (z := (⟨"com/example/ferrybus/ferrybus/codec/PacketType", "firstByte", "()I"⟩ : MethodName)) hown (mvT hZ (hw _ (List.mem_of_getElem? (i := 4) rfl))) (mvT hZ (hw _ (List.mem_of_getElem? (i := 5) rfl))) (notFace_of_selects (args := #[]) (mvT hZ (hw _ (List.mem_of_getElem? (i := 7) rfl)))) (mvT hZ (hw _ (List.mem_of_getElem? (i := 7) rfl))) (mvT hZ (hw _ (List.mem_of_getElem? (i := 6) rfl))) (by decide) (own_back (W := 0) (rm1_2 l Z a0 hw []  A hW h0 x0 ) hZ (hw _ (List.mem_of_getElem? (i := 8) rfl)) (hw _ (List.mem_of_getElem? (i := 2) rfl)) (by decide) (by decide)) q10a q10c (g := (mkF m 241 #[.val (.int p0), .val (.int (2 : Int32)), .val (.ref (A 7)), .val (.int (48 : Int32)), .unset] [(.ref (A 7))])) rfl (by rw [hml]; rfl) (Steps.refl _) (argsL := []) (rest := []) (lenOf pd_0 rfl) rfl (by show 2 * 0 + _ ≤ _; exact Nat.le_of_eq rfl) (hb hby at_241) (fun _ _ => ⟨rfl, e9, (by decide : 0 + 0 ≤ _), (by decide : 0 + 0 ≤ _)⟩)
    dsimp only [Pt.U, Pt.locs, Pt.cells, Pt.slots] at X10 l10 y10 z10 st10 hQ10
    subst l10 y10 z10
    obtain ⟨rfl, N10q, e10⟩ := hQ10
    have N10 := Fr.app N0 N10q
    refine own_go (B := T10.setTop (mkF m 244 #[.val (.int p0), .val (.int (2 : Int32)), .val (.ref (A 7)), .val (.int (48 : Int32)), .unset] [(.int (48 : Int32))])) (fun _ k => st10.trans k) ?_
    refine own_go (B := T10.setTop (mkF m 246 #[.val (.int p0), .val (.int (2 : Int32)), .val (.ref (A 7)), .val (.int (48 : Int32)), .val (.int (48 : Int32))] [])) (fun _ k => XS.istore X10.here hx rfl (hb hby at_244) rfl (l' := #[.val (.int p0), .val (.int (2 : Int32)), .val (.ref (A 7)), .val (.int (48 : Int32)), .val (.int (48 : Int32))]) rfl k) ?_
    refine own_go (B := T10.setTop (mkF m 248 #[.val (.int p0), .val (.int (2 : Int32)), .val (.ref (A 7)), .val (.int (48 : Int32)), .val (.int (48 : Int32))] [(.int (48 : Int32))])) (fun _ k => XS.iload X10.here hx rfl (hb hby at_246) rfl k) ?_
    refine own_go (B := T10.setTop (mkF m 249 #[.val (.int p0), .val (.int (2 : Int32)), .val (.ref (A 7)), .val (.int (48 : Int32)), .val (.int (48 : Int32))] [(.int (48 : Int32)), (.int (48 : Int32))])) (fun _ k => XS.iloadN X10.here hx rfl (hb hby at_248) rfl k) ?_
    refine own_go (B := T10.setTop (mkF m 254 #[.val (.int p0), .val (.int (2 : Int32)), .val (.ref (A 7)), .val (.int (48 : Int32)), .val (.int (48 : Int32))] [])) (fun _ k => XS.icmpYes X10.here hx rfl (pc0 := 249) (pc' := 254) rfl (hb hby at_249) rfl (by decide) (by decide) (by decide) k) ?_
    refine own_go (B := T10.setTop (mkF m 256 #[.val (.int p0), .val (.int (2 : Int32)), .val (.ref (A 7)), .val (.int (48 : Int32)), .val (.int (48 : Int32))] [(.int (48 : Int32))])) (fun _ k => XS.iload X10.here hx rfl (hb hby at_254) rfl k) ?_
    obtain ⟨_, _, ⟨T11, L11, k11, n11⟩, -, X11, ⟨Lc11, hQ11, l11, y11, z11⟩, st11⟩ := Jvm.LawKit.callS X10 hx (y := (⟨"com/example/ferrybus/ferrybus/codec/PacketType", "of", "(I)Lcom/example/ferrybus/ferrybus/codec/PacketType;"⟩ : MethodName)) hown (mvT hZ (hw _ (List.mem_of_getElem? (i := 13) rfl))) (mvT hZ (hw _ (List.mem_of_getElem? (i := 14) rfl))) (mvT hZ (hw _ (List.mem_of_getElem? (i := 2) rfl))) (mvT hZ (hw _ (List.mem_of_getElem? (i := 15) rfl))) (by decide) (own_back (W := 0) (rm2_2 l Z a0 hw []  A hW h0 x0 ) hZ (hw _ (List.mem_of_getElem? (i := 15) rfl)) (hw _ (List.mem_of_getElem? (i := 2) rfl)) (by decide) (by decide)) (g := (mkF m 256 #[.val (.int p0), .val (.int (2 : Int32)), .val (.ref (A 7)), .val (.int (48 : Int32)), .val (.int (48 : Int32))] [(.int (48 : Int32))])) rfl (by rw [hml]; rfl) (argsL := [(.int (48 : Int32))]) (rest := []) (lenOf pd_1 rfl) rfl (by show 2 * 0 + _ ≤ _; exact Nat.le_of_eq rfl) (hb hby at_256) (fun _ _ => ⟨rfl, e10, (by decide : 0 + 0 ≤ _), (by decide : 0 + 0 ≤ _)⟩)
    dsimp only [Pt.U, Pt.locs, Pt.cells, Pt.slots] at X11 l11 y11 z11 st11 hQ11
    subst l11 y11 z11
    obtain ⟨rfl, N11q, e11⟩ := hQ11
    have N11 := Fr.app N10 N11q
    refine own_go (B := T11.setTop (mkF m 259 #[.val (.int p0), .val (.int (2 : Int32)), .val (.ref (A 7)), .val (.int (48 : Int32)), .val (.int (48 : Int32))] [(.ref (A 7))])) st11 ?_
    refine own_go (B := T11.setTop (mkF m 260 #[.val (.int p0), .val (.int (2 : Int32)), .val (.ref (A 7)), .val (.int (48 : Int32)), .val (.int (48 : Int32))] [(.ref (A 7)), (.ref (A 7))])) (fun _ k => XS.aloadN X11.here hx rfl (hb hby at_259) rfl rfl k) ?_
    refine own_go (B := T11.setTop (mkF m 263 #[.val (.int p0), .val (.int (2 : Int32)), .val (.ref (A 7)), .val (.int (48 : Int32)), .val (.int (48 : Int32))] [])) (fun _ k => Jvm.RoadKit.acmp (g := (mkF m 260 #[.val (.int p0), .val (.int (2 : Int32)), .val (.ref (A 7)), .val (.int (48 : Int32)), .val (.int (48 : Int32))] [(.ref (A 7)), (.ref (A 7))])) X11 hx rfl rfl rfl (pc0 := 260) (pc' := 263) (same := true) rfl (hb hby at_260) rfl (decide_eq_true rfl) (by decide) (by decide) k) ?_
    refine own_go (B := T11.setTop (mkF m 264 #[.val (.int p0), .val (.int (2 : Int32)), .val (.ref (A 7)), .val (.int (48 : Int32)), .val (.int (48 : Int32))] [(.ref (A 7))])) (fun _ k => XS.aloadN X11.here hx rfl (hb hby at_263) rfl rfl k) ?_
    refine own_go (B := T11.setTop (mkF m 266 #[.val (.int p0), .val (.int (2 : Int32)), .val (.ref (A 7)), .val (.int (48 : Int32)), .val (.int (48 : Int32))] [(.int (48 : Int32)), (.ref (A 7))])) (fun _ k => XS.iload X11.here hx rfl (hb hby at_264) rfl k) ?_
    refine own_go (B := T11.setTop (mkF m 268 #[.val (.int p0), .val (.int (2 : Int32)), .val (.ref (A 7)), .val (.int (48 : Int32)), .val (.int (48 : Int32))] [(.int (15 : Int32)), (.int (48 : Int32)), (.ref (A 7))])) (fun _ k => XT.bipushV X11.here hx rfl (15 : Int32) (hb hby at_266) (by decide) k) ?_
    refine own_go (B := T11.setTop (mkF m 269 #[.val (.int p0), .val (.int (2 : Int32)), .val (.ref (A 7)), .val (.int (48 : Int32)), .val (.int (48 : Int32))] [(.int ((48 : Int32) &&& (15 : Int32))), (.ref (A 7))])) (fun _ k => XS.iand X11.here hx rfl (hb hby at_268) rfl k) ?_
    obtain ⟨cq12, kq12, q12a, q12b, q12c⟩ := isOf hZ e11 (E_PUBLISH.ext x0)
    obtain ⟨_, _, ⟨T12, L12, k12, n12⟩, -, X12, ⟨Lc12, hQ12, l12, y12, z12⟩, st12⟩ := X11.virtualBack hx (y := (⟨"com/example/ferrybus/ferrybus/codec/PacketType", "allows", "(I)Z"⟩ : MethodName)) (z := (⟨"com/example/ferrybus/ferrybus/codec/PacketType", "allows", "(I)Z"⟩ : MethodName)) hown (mvT hZ (hw _ (List.mem_of_getElem? (i := 18) rfl))) (mvT hZ (hw _ (List.mem_of_getElem? (i := 19) rfl))) (notFace_of_selects (args := #[]) (mvT hZ (hw _ (List.mem_of_getElem? (i := 21) rfl)))) (mvT hZ (hw _ (List.mem_of_getElem? (i := 21) rfl))) (mvT hZ (hw _ (List.mem_of_getElem? (i := 20) rfl))) (by decide) (own_back (W := 0) (rm3_2 l Z a0 hw []  A hW h0 x0 ) hZ (hw _ (List.mem_of_getElem? (i := 22) rfl)) (hw _ (List.mem_of_getElem? (i := 2) rfl)) (by decide) (by decide)) q12a q12c (g := (mkF m 269 #[.val (.int p0), .val (.int (2 : Int32)), .val (.ref (A 7)), .val (.int (48 : Int32)), .val (.int (48 : Int32))] [(.int ((48 : Int32) &&& (15 : Int32))), (.ref (A 7))])) rfl (by rw [hml]; rfl) (Steps.refl _) (argsL := [(.int ((48 : Int32) &&& (15 : Int32)))]) (rest := []) (lenOf pd_2 rfl) rfl (by show 2 * 0 + _ ≤ _; exact Nat.le_of_eq rfl) (hb hby at_269) (fun _ _ => ⟨rfl, e11, (by decide : 0 + 0 ≤ _), (by decide : 0 + 0 ≤ _)⟩)
    dsimp only [Pt.U, Pt.locs, Pt.cells, Pt.slots] at X12 l12 y12 z12 st12 hQ12
    subst l12 y12 z12
    obtain ⟨rfl, N12q, e12⟩ := hQ12
    have N12 := Fr.app N11 N12q
    refine own_go (B := T12.setTop (mkF m 272 #[.val (.int p0), .val (.int (2 : Int32)), .val (.ref (A 7)), .val (.int (48 : Int32)), .val (.int (48 : Int32))] [(.int (1 : Int32))])) (fun _ k => st12.trans k) ?_
    refine own_go (B := T12.setTop (mkF m 275 #[.val (.int p0), .val (.int (2 : Int32)), .val (.ref (A 7)), .val (.int (48 : Int32)), .val (.int (48 : Int32))] [])) (fun _ k => XS.ifNo X12.here hx rfl (hb hby at_272) rfl (by decide) k) ?_
    refine own_go (B := T12.setTop (mkF m 276 #[.val (.int p0), .val (.int (2 : Int32)), .val (.ref (A 7)), .val (.int (48 : Int32)), .val (.int (48 : Int32))] [(.int (1 : Int32))])) (fun _ k => XT.iconstV X12.here hx rfl (1 : Int32) (hb hby at_275) rfl k) ?_
    refine own_go (B := T12.setTop (mkF m 280 #[.val (.int p0), .val (.int (2 : Int32)), .val (.ref (A 7)), .val (.int (48 : Int32)), .val (.int (48 : Int32))] [(.int (1 : Int32))])) (fun _ k => XS.goto X12.here hx rfl (pc0 := 276) (pc' := 280) rfl (hb hby at_276) (by decide) (by decide) k) ?_
    exact own_ret X12 hx (t := .boolean) hrt rfl (Or.inl ⟨rfl, by simp, _, rfl⟩) (hb hby at_280) hlk ⟨rfl, N12⟩ (by decide) (by decide)
  · refine own_go (B := s₁.setTop (mkF m 9 #[.val (.int p0), .val (.int (3 : Int32)), .unset, .unset, .unset] [(.int (3 : Int32))])) (fun _ k => XS.iloadN X0.here hx rfl (hb hby at_8) rfl k) ?_
    refine own_go (B := s₁.setTop (mkF m 22 #[.val (.int p0), .val (.int (3 : Int32)), .unset, .unset, .unset] [])) (fun _ k => XS.ifYes X0.here hx rfl (pc0 := 9) (pc' := 22) rfl (hb hby at_9) rfl (by decide) (by decide) (by decide) k) ?_
    refine own_go (B := s₁.setTop (mkF m 23 #[.val (.int p0), .val (.int (3 : Int32)), .unset, .unset, .unset] [(.int (3 : Int32))])) (fun _ k => XS.iloadN X0.here hx rfl (hb hby at_22) rfl k) ?_
    refine own_go (B := s₁.setTop (mkF m 24 #[.val (.int p0), .val (.int (3 : Int32)), .unset, .unset, .unset] [(.int (1 : Int32)), (.int (3 : Int32))])) (fun _ k => XT.iconstV X0.here hx rfl (1 : Int32) (hb hby at_23) rfl k) ?_
    refine own_go (B := s₁.setTop (mkF m 37 #[.val (.int p0), .val (.int (3 : Int32)), .unset, .unset, .unset] [])) (fun _ k => XS.icmpYes X0.here hx rfl (pc0 := 24) (pc' := 37) rfl (hb hby at_24) rfl (by decide) (by decide) (by decide) k) ?_
    refine own_go (B := s₁.setTop (mkF m 38 #[.val (.int p0), .val (.int (3 : Int32)), .unset, .unset, .unset] [(.int (3 : Int32))])) (fun _ k => XS.iloadN X0.here hx rfl (hb hby at_37) rfl k) ?_
    refine own_go (B := s₁.setTop (mkF m 39 #[.val (.int p0), .val (.int (3 : Int32)), .unset, .unset, .unset] [(.int (2 : Int32)), (.int (3 : Int32))])) (fun _ k => XT.iconstV X0.here hx rfl (2 : Int32) (hb hby at_38) rfl k) ?_
    refine own_go (B := s₁.setTop (mkF m 52 #[.val (.int p0), .val (.int (3 : Int32)), .unset, .unset, .unset] [])) (fun _ k => XS.icmpYes X0.here hx rfl (pc0 := 39) (pc' := 52) rfl (hb hby at_39) rfl (by decide) (by decide) (by decide) k) ?_
    refine own_go (B := s₁.setTop (mkF m 53 #[.val (.int p0), .val (.int (3 : Int32)), .unset, .unset, .unset] [(.int (3 : Int32))])) (fun _ k => XS.iloadN X0.here hx rfl (hb hby at_52) rfl k) ?_
    refine own_go (B := s₁.setTop (mkF m 54 #[.val (.int p0), .val (.int (3 : Int32)), .unset, .unset, .unset] [(.int (3 : Int32)), (.int (3 : Int32))])) (fun _ k => XT.iconstV X0.here hx rfl (3 : Int32) (hb hby at_53) rfl k) ?_
    refine own_go (B := s₁.setTop (mkF m 57 #[.val (.int p0), .val (.int (3 : Int32)), .unset, .unset, .unset] [])) (fun _ k => XS.icmpNo X0.here hx rfl (hb hby at_54) rfl (by decide) k) ?_
    obtain ⟨T13, X13, e13, st13⟩ := getS2 X0 hx hZ hown (host := "") (Or.inl (hw _ (List.mem_of_getElem? (i := 23) rfl))) Via.refl e0 (S_PUBACK.ext x0) (g := (mkF m 57 #[.val (.int p0), .val (.int (3 : Int32)), .unset, .unset, .unset] [])) rfl (hb hby at_57)
    refine own_go (B := T13.setTop (mkF m 60 #[.val (.int p0), .val (.int (3 : Int32)), .unset, .unset, .unset] [(.ref (A 1))])) st13 ?_
    refine own_go (B := T13.setTop (mkF m 61 #[.val (.int p0), .val (.int (3 : Int32)), .val (.ref (A 1)), .unset, .unset] [])) (fun _ k => XS.astoreN X13.here hx rfl (hb hby at_60) rfl rfl (l' := #[.val (.int p0), .val (.int (3 : Int32)), .val (.ref (A 1)), .unset, .unset]) rfl k) ?_
    refine own_go (B := T13.setTop (mkF m 63 #[.val (.int p0), .val (.int (3 : Int32)), .val (.ref (A 1)), .unset, .unset] [(.int (64 : Int32))])) (fun _ k => XT.bipushV X13.here hx rfl (64 : Int32) (hb hby at_61) (by decide) k) ?_
    refine own_go (B := T13.setTop (mkF m 64 #[.val (.int p0), .val (.int (3 : Int32)), .val (.ref (A 1)), .val (.int (64 : Int32)), .unset] [])) (fun _ k => XS.istoreN X13.here hx rfl (hb hby at_63) rfl (l' := #[.val (.int p0), .val (.int (3 : Int32)), .val (.ref (A 1)), .val (.int (64 : Int32)), .unset]) rfl k) ?_
    refine own_go (B := T13.setTop (mkF m 240 #[.val (.int p0), .val (.int (3 : Int32)), .val (.ref (A 1)), .val (.int (64 : Int32)), .unset] [])) (fun _ k => XS.goto X13.here hx rfl (pc0 := 64) (pc' := 240) rfl (hb hby at_64) (by decide) (by decide) k) ?_
    refine own_go (B := T13.setTop (mkF m 241 #[.val (.int p0), .val (.int (3 : Int32)), .val (.ref (A 1)), .val (.int (64 : Int32)), .unset] [(.ref (A 1))])) (fun _ k => XS.aloadN X13.here hx rfl (hb hby at_240) rfl rfl k) ?_
    obtain ⟨cq14, kq14, q14a, q14b, q14c⟩ := isOf hZ e13 (E_PUBACK.ext x0)
    obtain ⟨_, _, ⟨T14, L14, k14, n14⟩, -, X14, ⟨Lc14, hQ14, l14, y14, z14⟩, st14⟩ := X13.virtualBack hx (y := (⟨"com/example/ferrybus/ferrybus/codec/PacketType", "firstByte", "()I"⟩ : MethodName)) (z := (⟨"com/example/ferrybus/ferrybus/codec/PacketType", "firstByte", "()I"⟩ : MethodName)) hown (mvT hZ (hw _ (List.mem_of_getElem? (i := 4) rfl))) (mvT hZ (hw _ (List.mem_of_getElem? (i := 5) rfl))) (notFace_of_selects (args := #[]) (mvT hZ (hw _ (List.mem_of_getElem? (i := 7) rfl)))) (mvT hZ (hw _ (List.mem_of_getElem? (i := 7) rfl))) (mvT hZ (hw _ (List.mem_of_getElem? (i := 6) rfl))) (by decide) (own_back (W := 0) (rm1_3 l Z a0 hw []  A hW h0 x0 ) hZ (hw _ (List.mem_of_getElem? (i := 8) rfl)) (hw _ (List.mem_of_getElem? (i := 2) rfl)) (by decide) (by decide)) q14a q14c (g := (mkF m 241 #[.val (.int p0), .val (.int (3 : Int32)), .val (.ref (A 1)), .val (.int (64 : Int32)), .unset] [(.ref (A 1))])) rfl (by rw [hml]; rfl) (Steps.refl _) (argsL := []) (rest := []) (lenOf pd_0 rfl) rfl (by show 2 * 0 + _ ≤ _; exact Nat.le_of_eq rfl) (hb hby at_241) (fun _ _ => ⟨rfl, e13, (by decide : 0 + 0 ≤ _), (by decide : 0 + 0 ≤ _)⟩)
    dsimp only [Pt.U, Pt.locs, Pt.cells, Pt.slots] at X14 l14 y14 z14 st14 hQ14
    subst l14 y14 z14
    obtain ⟨rfl, N14q, e14⟩ := hQ14
    have N14 := Fr.app N0 N14q
    refine own_go (B := T14.setTop (mkF m 244 #[.val (.int p0), .val (.int (3 : Int32)), .val (.ref (A 1)), .val (.int (64 : Int32)), .unset] [(.int (64 : Int32))])) (fun _ k => st14.trans k) ?_
    refine own_go (B := T14.setTop (mkF m 246 #[.val (.int p0), .val (.int (3 : Int32)), .val (.ref (A 1)), .val (.int (64 : Int32)), .val (.int (64 : Int32))] [])) (fun _ k => XS.istore X14.here hx rfl (hb hby at_244) rfl (l' := #[.val (.int p0), .val (.int (3 : Int32)), .val (.ref (A 1)), .val (.int (64 : Int32)), .val (.int (64 : Int32))]) rfl k) ?_
    refine own_go (B := T14.setTop (mkF m 248 #[.val (.int p0), .val (.int (3 : Int32)), .val (.ref (A 1)), .val (.int (64 : Int32)), .val (.int (64 : Int32))] [(.int (64 : Int32))])) (fun _ k => XS.iload X14.here hx rfl (hb hby at_246) rfl k) ?_
    refine own_go (B := T14.setTop (mkF m 249 #[.val (.int p0), .val (.int (3 : Int32)), .val (.ref (A 1)), .val (.int (64 : Int32)), .val (.int (64 : Int32))] [(.int (64 : Int32)), (.int (64 : Int32))])) (fun _ k => XS.iloadN X14.here hx rfl (hb hby at_248) rfl k) ?_
    refine own_go (B := T14.setTop (mkF m 254 #[.val (.int p0), .val (.int (3 : Int32)), .val (.ref (A 1)), .val (.int (64 : Int32)), .val (.int (64 : Int32))] [])) (fun _ k => XS.icmpYes X14.here hx rfl (pc0 := 249) (pc' := 254) rfl (hb hby at_249) rfl (by decide) (by decide) (by decide) k) ?_
    refine own_go (B := T14.setTop (mkF m 256 #[.val (.int p0), .val (.int (3 : Int32)), .val (.ref (A 1)), .val (.int (64 : Int32)), .val (.int (64 : Int32))] [(.int (64 : Int32))])) (fun _ k => XS.iload X14.here hx rfl (hb hby at_254) rfl k) ?_
    obtain ⟨_, _, ⟨T15, L15, k15, n15⟩, -, X15, ⟨Lc15, hQ15, l15, y15, z15⟩, st15⟩ := Jvm.LawKit.callS X14 hx (y := (⟨"com/example/ferrybus/ferrybus/codec/PacketType", "of", "(I)Lcom/example/ferrybus/ferrybus/codec/PacketType;"⟩ : MethodName)) hown (mvT hZ (hw _ (List.mem_of_getElem? (i := 13) rfl))) (mvT hZ (hw _ (List.mem_of_getElem? (i := 14) rfl))) (mvT hZ (hw _ (List.mem_of_getElem? (i := 2) rfl))) (mvT hZ (hw _ (List.mem_of_getElem? (i := 15) rfl))) (by decide) (own_back (W := 0) (rm2_3 l Z a0 hw []  A hW h0 x0 ) hZ (hw _ (List.mem_of_getElem? (i := 15) rfl)) (hw _ (List.mem_of_getElem? (i := 2) rfl)) (by decide) (by decide)) (g := (mkF m 256 #[.val (.int p0), .val (.int (3 : Int32)), .val (.ref (A 1)), .val (.int (64 : Int32)), .val (.int (64 : Int32))] [(.int (64 : Int32))])) rfl (by rw [hml]; rfl) (argsL := [(.int (64 : Int32))]) (rest := []) (lenOf pd_1 rfl) rfl (by show 2 * 0 + _ ≤ _; exact Nat.le_of_eq rfl) (hb hby at_256) (fun _ _ => ⟨rfl, e14, (by decide : 0 + 0 ≤ _), (by decide : 0 + 0 ≤ _)⟩)
    dsimp only [Pt.U, Pt.locs, Pt.cells, Pt.slots] at X15 l15 y15 z15 st15 hQ15
    subst l15 y15 z15
    obtain ⟨rfl, N15q, e15⟩ := hQ15
    have N15 := Fr.app N14 N15q
    refine own_go (B := T15.setTop (mkF m 259 #[.val (.int p0), .val (.int (3 : Int32)), .val (.ref (A 1)), .val (.int (64 : Int32)), .val (.int (64 : Int32))] [(.ref (A 1))])) st15 ?_
    refine own_go (B := T15.setTop (mkF m 260 #[.val (.int p0), .val (.int (3 : Int32)), .val (.ref (A 1)), .val (.int (64 : Int32)), .val (.int (64 : Int32))] [(.ref (A 1)), (.ref (A 1))])) (fun _ k => XS.aloadN X15.here hx rfl (hb hby at_259) rfl rfl k) ?_
    refine own_go (B := T15.setTop (mkF m 263 #[.val (.int p0), .val (.int (3 : Int32)), .val (.ref (A 1)), .val (.int (64 : Int32)), .val (.int (64 : Int32))] [])) (fun _ k => Jvm.RoadKit.acmp (g := (mkF m 260 #[.val (.int p0), .val (.int (3 : Int32)), .val (.ref (A 1)), .val (.int (64 : Int32)), .val (.int (64 : Int32))] [(.ref (A 1)), (.ref (A 1))])) X15 hx rfl rfl rfl (pc0 := 260) (pc' := 263) (same := true) rfl (hb hby at_260) rfl (decide_eq_true rfl) (by decide) (by decide) k) ?_
    refine own_go (B := T15.setTop (mkF m 264 #[.val (.int p0), .val (.int (3 : Int32)), .val (.ref (A 1)), .val (.int (64 : Int32)), .val (.int (64 : Int32))] [(.ref (A 1))])) (fun _ k => XS.aloadN X15.here hx rfl (hb hby at_263) rfl rfl k) ?_
    refine own_go (B := T15.setTop (mkF m 266 #[.val (.int p0), .val (.int (3 : Int32)), .val (.ref (A 1)), .val (.int (64 : Int32)), .val (.int (64 : Int32))] [(.int (64 : Int32)), (.ref (A 1))])) (fun _ k => XS.iload X15.here hx rfl (hb hby at_264) rfl k) ?_
    refine own_go (B := T15.setTop (mkF m 268 #[.val (.int p0), .val (.int (3 : Int32)), .val (.ref (A 1)), .val (.int (64 : Int32)), .val (.int (64 : Int32))] [(.int (15 : Int32)), (.int (64 : Int32)), (.ref (A 1))])) (fun _ k => XT.bipushV X15.here hx rfl (15 : Int32) (hb hby at_266) (by decide) k) ?_
    refine own_go (B := T15.setTop (mkF m 269 #[.val (.int p0), .val (.int (3 : Int32)), .val (.ref (A 1)), .val (.int (64 : Int32)), .val (.int (64 : Int32))] [(.int ((64 : Int32) &&& (15 : Int32))), (.ref (A 1))])) (fun _ k => XS.iand X15.here hx rfl (hb hby at_268) rfl k) ?_
    obtain ⟨cq16, kq16, q16a, q16b, q16c⟩ := isOf hZ e15 (E_PUBACK.ext x0)
    obtain ⟨_, _, ⟨T16, L16, k16, n16⟩, -, X16, ⟨Lc16, hQ16, l16, y16, z16⟩, st16⟩ := X15.virtualBack hx (y := (⟨"com/example/ferrybus/ferrybus/codec/PacketType", "allows", "(I)Z"⟩ : MethodName)) (z := (⟨"com/example/ferrybus/ferrybus/codec/PacketType", "allows", "(I)Z"⟩ : MethodName)) hown (mvT hZ (hw _ (List.mem_of_getElem? (i := 18) rfl))) (mvT hZ (hw _ (List.mem_of_getElem? (i := 19) rfl))) (notFace_of_selects (args := #[]) (mvT hZ (hw _ (List.mem_of_getElem? (i := 21) rfl)))) (mvT hZ (hw _ (List.mem_of_getElem? (i := 21) rfl))) (mvT hZ (hw _ (List.mem_of_getElem? (i := 20) rfl))) (by decide) (own_back (W := 0) (rm3_3 l Z a0 hw []  A hW h0 x0 ) hZ (hw _ (List.mem_of_getElem? (i := 22) rfl)) (hw _ (List.mem_of_getElem? (i := 2) rfl)) (by decide) (by decide)) q16a q16c (g := (mkF m 269 #[.val (.int p0), .val (.int (3 : Int32)), .val (.ref (A 1)), .val (.int (64 : Int32)), .val (.int (64 : Int32))] [(.int ((64 : Int32) &&& (15 : Int32))), (.ref (A 1))])) rfl (by rw [hml]; rfl) (Steps.refl _) (argsL := [(.int ((64 : Int32) &&& (15 : Int32)))]) (rest := []) (lenOf pd_2 rfl) rfl (by show 2 * 0 + _ ≤ _; exact Nat.le_of_eq rfl) (hb hby at_269) (fun _ _ => ⟨rfl, e15, (by decide : 0 + 0 ≤ _), (by decide : 0 + 0 ≤ _)⟩)
    dsimp only [Pt.U, Pt.locs, Pt.cells, Pt.slots] at X16 l16 y16 z16 st16 hQ16
    subst l16 y16 z16
    obtain ⟨rfl, N16q, e16⟩ := hQ16
    have N16 := Fr.app N15 N16q
    refine own_go (B := T16.setTop (mkF m 272 #[.val (.int p0), .val (.int (3 : Int32)), .val (.ref (A 1)), .val (.int (64 : Int32)), .val (.int (64 : Int32))] [(.int (1 : Int32))])) (fun _ k => st16.trans k) ?_
    refine own_go (B := T16.setTop (mkF m 275 #[.val (.int p0), .val (.int (3 : Int32)), .val (.ref (A 1)), .val (.int (64 : Int32)), .val (.int (64 : Int32))] [])) (fun _ k => XS.ifNo X16.here hx rfl (hb hby at_272) rfl (by decide) k) ?_
    refine own_go (B := T16.setTop (mkF m 276 #[.val (.int p0), .val (.int (3 : Int32)), .val (.ref (A 1)), .val (.int (64 : Int32)), .val (.int (64 : Int32))] [(.int (1 : Int32))])) (fun _ k => XT.iconstV X16.here hx rfl (1 : Int32) (hb hby at_275) rfl k) ?_
    refine own_go (B := T16.setTop (mkF m 280 #[.val (.int p0), .val (.int (3 : Int32)), .val (.ref (A 1)), .val (.int (64 : Int32)), .val (.int (64 : Int32))] [(.int (1 : Int32))])) (fun _ k => XS.goto X16.here hx rfl (pc0 := 276) (pc' := 280) rfl (hb hby at_276) (by decide) (by decide) k) ?_
    exact own_ret X16 hx (t := .boolean) hrt rfl (Or.inl ⟨rfl, by simp, _, rfl⟩) (hb hby at_280) hlk ⟨rfl, N16⟩ (by decide) (by decide)
  · refine own_go (B := s₁.setTop (mkF m 9 #[.val (.int p0), .val (.int (4 : Int32)), .unset, .unset, .unset] [(.int (4 : Int32))])) (fun _ k => XS.iloadN X0.here hx rfl (hb hby at_8) rfl k) ?_
    refine own_go (B := s₁.setTop (mkF m 22 #[.val (.int p0), .val (.int (4 : Int32)), .unset, .unset, .unset] [])) (fun _ k => XS.ifYes X0.here hx rfl (pc0 := 9) (pc' := 22) rfl (hb hby at_9) rfl (by decide) (by decide) (by decide) k) ?_
    refine own_go (B := s₁.setTop (mkF m 23 #[.val (.int p0), .val (.int (4 : Int32)), .unset, .unset, .unset] [(.int (4 : Int32))])) (fun _ k => XS.iloadN X0.here hx rfl (hb hby at_22) rfl k) ?_
    refine own_go (B := s₁.setTop (mkF m 24 #[.val (.int p0), .val (.int (4 : Int32)), .unset, .unset, .unset] [(.int (1 : Int32)), (.int (4 : Int32))])) (fun _ k => XT.iconstV X0.here hx rfl (1 : Int32) (hb hby at_23) rfl k) ?_
    refine own_go (B := s₁.setTop (mkF m 37 #[.val (.int p0), .val (.int (4 : Int32)), .unset, .unset, .unset] [])) (fun _ k => XS.icmpYes X0.here hx rfl (pc0 := 24) (pc' := 37) rfl (hb hby at_24) rfl (by decide) (by decide) (by decide) k) ?_
    refine own_go (B := s₁.setTop (mkF m 38 #[.val (.int p0), .val (.int (4 : Int32)), .unset, .unset, .unset] [(.int (4 : Int32))])) (fun _ k => XS.iloadN X0.here hx rfl (hb hby at_37) rfl k) ?_
    refine own_go (B := s₁.setTop (mkF m 39 #[.val (.int p0), .val (.int (4 : Int32)), .unset, .unset, .unset] [(.int (2 : Int32)), (.int (4 : Int32))])) (fun _ k => XT.iconstV X0.here hx rfl (2 : Int32) (hb hby at_38) rfl k) ?_
    refine own_go (B := s₁.setTop (mkF m 52 #[.val (.int p0), .val (.int (4 : Int32)), .unset, .unset, .unset] [])) (fun _ k => XS.icmpYes X0.here hx rfl (pc0 := 39) (pc' := 52) rfl (hb hby at_39) rfl (by decide) (by decide) (by decide) k) ?_
    refine own_go (B := s₁.setTop (mkF m 53 #[.val (.int p0), .val (.int (4 : Int32)), .unset, .unset, .unset] [(.int (4 : Int32))])) (fun _ k => XS.iloadN X0.here hx rfl (hb hby at_52) rfl k) ?_
    refine own_go (B := s₁.setTop (mkF m 54 #[.val (.int p0), .val (.int (4 : Int32)), .unset, .unset, .unset] [(.int (3 : Int32)), (.int (4 : Int32))])) (fun _ k => XT.iconstV X0.here hx rfl (3 : Int32) (hb hby at_53) rfl k) ?_
    refine own_go (B := s₁.setTop (mkF m 67 #[.val (.int p0), .val (.int (4 : Int32)), .unset, .unset, .unset] [])) (fun _ k => XS.icmpYes X0.here hx rfl (pc0 := 54) (pc' := 67) rfl (hb hby at_54) rfl (by decide) (by decide) (by decide) k) ?_
    refine own_go (B := s₁.setTop (mkF m 68 #[.val (.int p0), .val (.int (4 : Int32)), .unset, .unset, .unset] [(.int (4 : Int32))])) (fun _ k => XS.iloadN X0.here hx rfl (hb hby at_67) rfl k) ?_
    refine own_go (B := s₁.setTop (mkF m 69 #[.val (.int p0), .val (.int (4 : Int32)), .unset, .unset, .unset] [(.int (4 : Int32)), (.int (4 : Int32))])) (fun _ k => XT.iconstV X0.here hx rfl (4 : Int32) (hb hby at_68) rfl k) ?_
    refine own_go (B := s₁.setTop (mkF m 72 #[.val (.int p0), .val (.int (4 : Int32)), .unset, .unset, .unset] [])) (fun _ k => XS.icmpNo X0.here hx rfl (hb hby at_69) rfl (by decide) k) ?_
    obtain ⟨T17, X17, e17, st17⟩ := getS2 X0 hx hZ hown (host := "") (Or.inl (hw _ (List.mem_of_getElem? (i := 47) rfl))) Via.refl e0 (S_PUBREC.ext x0) (g := (mkF m 72 #[.val (.int p0), .val (.int (4 : Int32)), .unset, .unset, .unset] [])) rfl (hb hby at_72)
    refine own_go (B := T17.setTop (mkF m 75 #[.val (.int p0), .val (.int (4 : Int32)), .unset, .unset, .unset] [(.ref (A 13))])) st17 ?_
    refine own_go (B := T17.setTop (mkF m 76 #[.val (.int p0), .val (.int (4 : Int32)), .val (.ref (A 13)), .unset, .unset] [])) (fun _ k => XS.astoreN X17.here hx rfl (hb hby at_75) rfl rfl (l' := #[.val (.int p0), .val (.int (4 : Int32)), .val (.ref (A 13)), .unset, .unset]) rfl k) ?_
    refine own_go (B := T17.setTop (mkF m 78 #[.val (.int p0), .val (.int (4 : Int32)), .val (.ref (A 13)), .unset, .unset] [(.int (80 : Int32))])) (fun _ k => XT.bipushV X17.here hx rfl (80 : Int32) (hb hby at_76) (by decide) k) ?_
    refine own_go (B := T17.setTop (mkF m 79 #[.val (.int p0), .val (.int (4 : Int32)), .val (.ref (A 13)), .val (.int (80 : Int32)), .unset] [])) (fun _ k => XS.istoreN X17.here hx rfl (hb hby at_78) rfl (l' := #[.val (.int p0), .val (.int (4 : Int32)), .val (.ref (A 13)), .val (.int (80 : Int32)), .unset]) rfl k) ?_
    refine own_go (B := T17.setTop (mkF m 240 #[.val (.int p0), .val (.int (4 : Int32)), .val (.ref (A 13)), .val (.int (80 : Int32)), .unset] [])) (fun _ k => XS.goto X17.here hx rfl (pc0 := 79) (pc' := 240) rfl (hb hby at_79) (by decide) (by decide) k) ?_
    refine own_go (B := T17.setTop (mkF m 241 #[.val (.int p0), .val (.int (4 : Int32)), .val (.ref (A 13)), .val (.int (80 : Int32)), .unset] [(.ref (A 13))])) (fun _ k => XS.aloadN X17.here hx rfl (hb hby at_240) rfl rfl k) ?_
    obtain ⟨cq18, kq18, q18a, q18b, q18c⟩ := isOf hZ e17 (E_PUBREC.ext x0)
    obtain ⟨_, _, ⟨T18, L18, k18, n18⟩, -, X18, ⟨Lc18, hQ18, l18, y18, z18⟩, st18⟩ := X17.virtualBack hx (y := (⟨"com/example/ferrybus/ferrybus/codec/PacketType", "firstByte", "()I"⟩ : MethodName)) (z := (⟨"com/example/ferrybus/ferrybus/codec/PacketType", "firstByte", "()I"⟩ : MethodName)) hown (mvT hZ (hw _ (List.mem_of_getElem? (i := 4) rfl))) (mvT hZ (hw _ (List.mem_of_getElem? (i := 5) rfl))) (notFace_of_selects (args := #[]) (mvT hZ (hw _ (List.mem_of_getElem? (i := 7) rfl)))) (mvT hZ (hw _ (List.mem_of_getElem? (i := 7) rfl))) (mvT hZ (hw _ (List.mem_of_getElem? (i := 6) rfl))) (by decide) (own_back (W := 0) (rm1_4 l Z a0 hw []  A hW h0 x0 ) hZ (hw _ (List.mem_of_getElem? (i := 8) rfl)) (hw _ (List.mem_of_getElem? (i := 2) rfl)) (by decide) (by decide)) q18a q18c (g := (mkF m 241 #[.val (.int p0), .val (.int (4 : Int32)), .val (.ref (A 13)), .val (.int (80 : Int32)), .unset] [(.ref (A 13))])) rfl (by rw [hml]; rfl) (Steps.refl _) (argsL := []) (rest := []) (lenOf pd_0 rfl) rfl (by show 2 * 0 + _ ≤ _; exact Nat.le_of_eq rfl) (hb hby at_241) (fun _ _ => ⟨rfl, e17, (by decide : 0 + 0 ≤ _), (by decide : 0 + 0 ≤ _)⟩)
    dsimp only [Pt.U, Pt.locs, Pt.cells, Pt.slots] at X18 l18 y18 z18 st18 hQ18
    subst l18 y18 z18
    obtain ⟨rfl, N18q, e18⟩ := hQ18
    have N18 := Fr.app N0 N18q
    refine own_go (B := T18.setTop (mkF m 244 #[.val (.int p0), .val (.int (4 : Int32)), .val (.ref (A 13)), .val (.int (80 : Int32)), .unset] [(.int (80 : Int32))])) (fun _ k => st18.trans k) ?_
    refine own_go (B := T18.setTop (mkF m 246 #[.val (.int p0), .val (.int (4 : Int32)), .val (.ref (A 13)), .val (.int (80 : Int32)), .val (.int (80 : Int32))] [])) (fun _ k => XS.istore X18.here hx rfl (hb hby at_244) rfl (l' := #[.val (.int p0), .val (.int (4 : Int32)), .val (.ref (A 13)), .val (.int (80 : Int32)), .val (.int (80 : Int32))]) rfl k) ?_
    refine own_go (B := T18.setTop (mkF m 248 #[.val (.int p0), .val (.int (4 : Int32)), .val (.ref (A 13)), .val (.int (80 : Int32)), .val (.int (80 : Int32))] [(.int (80 : Int32))])) (fun _ k => XS.iload X18.here hx rfl (hb hby at_246) rfl k) ?_
    refine own_go (B := T18.setTop (mkF m 249 #[.val (.int p0), .val (.int (4 : Int32)), .val (.ref (A 13)), .val (.int (80 : Int32)), .val (.int (80 : Int32))] [(.int (80 : Int32)), (.int (80 : Int32))])) (fun _ k => XS.iloadN X18.here hx rfl (hb hby at_248) rfl k) ?_
    refine own_go (B := T18.setTop (mkF m 254 #[.val (.int p0), .val (.int (4 : Int32)), .val (.ref (A 13)), .val (.int (80 : Int32)), .val (.int (80 : Int32))] [])) (fun _ k => XS.icmpYes X18.here hx rfl (pc0 := 249) (pc' := 254) rfl (hb hby at_249) rfl (by decide) (by decide) (by decide) k) ?_
    refine own_go (B := T18.setTop (mkF m 256 #[.val (.int p0), .val (.int (4 : Int32)), .val (.ref (A 13)), .val (.int (80 : Int32)), .val (.int (80 : Int32))] [(.int (80 : Int32))])) (fun _ k => XS.iload X18.here hx rfl (hb hby at_254) rfl k) ?_
    obtain ⟨_, _, ⟨T19, L19, k19, n19⟩, -, X19, ⟨Lc19, hQ19, l19, y19, z19⟩, st19⟩ := Jvm.LawKit.callS X18 hx (y := (⟨"com/example/ferrybus/ferrybus/codec/PacketType", "of", "(I)Lcom/example/ferrybus/ferrybus/codec/PacketType;"⟩ : MethodName)) hown (mvT hZ (hw _ (List.mem_of_getElem? (i := 13) rfl))) (mvT hZ (hw _ (List.mem_of_getElem? (i := 14) rfl))) (mvT hZ (hw _ (List.mem_of_getElem? (i := 2) rfl))) (mvT hZ (hw _ (List.mem_of_getElem? (i := 15) rfl))) (by decide) (own_back (W := 0) (rm2_4 l Z a0 hw []  A hW h0 x0 ) hZ (hw _ (List.mem_of_getElem? (i := 15) rfl)) (hw _ (List.mem_of_getElem? (i := 2) rfl)) (by decide) (by decide)) (g := (mkF m 256 #[.val (.int p0), .val (.int (4 : Int32)), .val (.ref (A 13)), .val (.int (80 : Int32)), .val (.int (80 : Int32))] [(.int (80 : Int32))])) rfl (by rw [hml]; rfl) (argsL := [(.int (80 : Int32))]) (rest := []) (lenOf pd_1 rfl) rfl (by show 2 * 0 + _ ≤ _; exact Nat.le_of_eq rfl) (hb hby at_256) (fun _ _ => ⟨rfl, e18, (by decide : 0 + 0 ≤ _), (by decide : 0 + 0 ≤ _)⟩)
    dsimp only [Pt.U, Pt.locs, Pt.cells, Pt.slots] at X19 l19 y19 z19 st19 hQ19
    subst l19 y19 z19
    obtain ⟨rfl, N19q, e19⟩ := hQ19
    have N19 := Fr.app N18 N19q
    refine own_go (B := T19.setTop (mkF m 259 #[.val (.int p0), .val (.int (4 : Int32)), .val (.ref (A 13)), .val (.int (80 : Int32)), .val (.int (80 : Int32))] [(.ref (A 13))])) st19 ?_
    refine own_go (B := T19.setTop (mkF m 260 #[.val (.int p0), .val (.int (4 : Int32)), .val (.ref (A 13)), .val (.int (80 : Int32)), .val (.int (80 : Int32))] [(.ref (A 13)), (.ref (A 13))])) (fun _ k => XS.aloadN X19.here hx rfl (hb hby at_259) rfl rfl k) ?_
    refine own_go (B := T19.setTop (mkF m 263 #[.val (.int p0), .val (.int (4 : Int32)), .val (.ref (A 13)), .val (.int (80 : Int32)), .val (.int (80 : Int32))] [])) (fun _ k => Jvm.RoadKit.acmp (g := (mkF m 260 #[.val (.int p0), .val (.int (4 : Int32)), .val (.ref (A 13)), .val (.int (80 : Int32)), .val (.int (80 : Int32))] [(.ref (A 13)), (.ref (A 13))])) X19 hx rfl rfl rfl (pc0 := 260) (pc' := 263) (same := true) rfl (hb hby at_260) rfl (decide_eq_true rfl) (by decide) (by decide) k) ?_
    refine own_go (B := T19.setTop (mkF m 264 #[.val (.int p0), .val (.int (4 : Int32)), .val (.ref (A 13)), .val (.int (80 : Int32)), .val (.int (80 : Int32))] [(.ref (A 13))])) (fun _ k => XS.aloadN X19.here hx rfl (hb hby at_263) rfl rfl k) ?_
    refine own_go (B := T19.setTop (mkF m 266 #[.val (.int p0), .val (.int (4 : Int32)), .val (.ref (A 13)), .val (.int (80 : Int32)), .val (.int (80 : Int32))] [(.int (80 : Int32)), (.ref (A 13))])) (fun _ k => XS.iload X19.here hx rfl (hb hby at_264) rfl k) ?_
    refine own_go (B := T19.setTop (mkF m 268 #[.val (.int p0), .val (.int (4 : Int32)), .val (.ref (A 13)), .val (.int (80 : Int32)), .val (.int (80 : Int32))] [(.int (15 : Int32)), (.int (80 : Int32)), (.ref (A 13))])) (fun _ k => XT.bipushV X19.here hx rfl (15 : Int32) (hb hby at_266) (by decide) k) ?_
    refine own_go (B := T19.setTop (mkF m 269 #[.val (.int p0), .val (.int (4 : Int32)), .val (.ref (A 13)), .val (.int (80 : Int32)), .val (.int (80 : Int32))] [(.int ((80 : Int32) &&& (15 : Int32))), (.ref (A 13))])) (fun _ k => XS.iand X19.here hx rfl (hb hby at_268) rfl k) ?_
    obtain ⟨cq20, kq20, q20a, q20b, q20c⟩ := isOf hZ e19 (E_PUBREC.ext x0)
    obtain ⟨_, _, ⟨T20, L20, k20, n20⟩, -, X20, ⟨Lc20, hQ20, l20, y20, z20⟩, st20⟩ := X19.virtualBack hx (y := (⟨"com/example/ferrybus/ferrybus/codec/PacketType", "allows", "(I)Z"⟩ : MethodName)) (z := (⟨"com/example/ferrybus/ferrybus/codec/PacketType", "allows", "(I)Z"⟩ : MethodName)) hown (mvT hZ (hw _ (List.mem_of_getElem? (i := 18) rfl))) (mvT hZ (hw _ (List.mem_of_getElem? (i := 19) rfl))) (notFace_of_selects (args := #[]) (mvT hZ (hw _ (List.mem_of_getElem? (i := 21) rfl)))) (mvT hZ (hw _ (List.mem_of_getElem? (i := 21) rfl))) (mvT hZ (hw _ (List.mem_of_getElem? (i := 20) rfl))) (by decide) (own_back (W := 0) (rm3_4 l Z a0 hw []  A hW h0 x0 ) hZ (hw _ (List.mem_of_getElem? (i := 22) rfl)) (hw _ (List.mem_of_getElem? (i := 2) rfl)) (by decide) (by decide)) q20a q20c (g := (mkF m 269 #[.val (.int p0), .val (.int (4 : Int32)), .val (.ref (A 13)), .val (.int (80 : Int32)), .val (.int (80 : Int32))] [(.int ((80 : Int32) &&& (15 : Int32))), (.ref (A 13))])) rfl (by rw [hml]; rfl) (Steps.refl _) (argsL := [(.int ((80 : Int32) &&& (15 : Int32)))]) (rest := []) (lenOf pd_2 rfl) rfl (by show 2 * 0 + _ ≤ _; exact Nat.le_of_eq rfl) (hb hby at_269) (fun _ _ => ⟨rfl, e19, (by decide : 0 + 0 ≤ _), (by decide : 0 + 0 ≤ _)⟩)
    dsimp only [Pt.U, Pt.locs, Pt.cells, Pt.slots] at X20 l20 y20 z20 st20 hQ20
    subst l20 y20 z20
    obtain ⟨rfl, N20q, e20⟩ := hQ20
    have N20 := Fr.app N19 N20q
    refine own_go (B := T20.setTop (mkF m 272 #[.val (.int p0), .val (.int (4 : Int32)), .val (.ref (A 13)), .val (.int (80 : Int32)), .val (.int (80 : Int32))] [(.int (1 : Int32))])) (fun _ k => st20.trans k) ?_
    refine own_go (B := T20.setTop (mkF m 275 #[.val (.int p0), .val (.int (4 : Int32)), .val (.ref (A 13)), .val (.int (80 : Int32)), .val (.int (80 : Int32))] [])) (fun _ k => XS.ifNo X20.here hx rfl (hb hby at_272) rfl (by decide) k) ?_
    refine own_go (B := T20.setTop (mkF m 276 #[.val (.int p0), .val (.int (4 : Int32)), .val (.ref (A 13)), .val (.int (80 : Int32)), .val (.int (80 : Int32))] [(.int (1 : Int32))])) (fun _ k => XT.iconstV X20.here hx rfl (1 : Int32) (hb hby at_275) rfl k) ?_
    refine own_go (B := T20.setTop (mkF m 280 #[.val (.int p0), .val (.int (4 : Int32)), .val (.ref (A 13)), .val (.int (80 : Int32)), .val (.int (80 : Int32))] [(.int (1 : Int32))])) (fun _ k => XS.goto X20.here hx rfl (pc0 := 276) (pc' := 280) rfl (hb hby at_276) (by decide) (by decide) k) ?_
    exact own_ret X20 hx (t := .boolean) hrt rfl (Or.inl ⟨rfl, by simp, _, rfl⟩) (hb hby at_280) hlk ⟨rfl, N20⟩ (by decide) (by decide)
  · refine own_go (B := s₁.setTop (mkF m 9 #[.val (.int p0), .val (.int (5 : Int32)), .unset, .unset, .unset] [(.int (5 : Int32))])) (fun _ k => XS.iloadN X0.here hx rfl (hb hby at_8) rfl k) ?_
    refine own_go (B := s₁.setTop (mkF m 22 #[.val (.int p0), .val (.int (5 : Int32)), .unset, .unset, .unset] [])) (fun _ k => XS.ifYes X0.here hx rfl (pc0 := 9) (pc' := 22) rfl (hb hby at_9) rfl (by decide) (by decide) (by decide) k) ?_
    refine own_go (B := s₁.setTop (mkF m 23 #[.val (.int p0), .val (.int (5 : Int32)), .unset, .unset, .unset] [(.int (5 : Int32))])) (fun _ k => XS.iloadN X0.here hx rfl (hb hby at_22) rfl k) ?_
    refine own_go (B := s₁.setTop (mkF m 24 #[.val (.int p0), .val (.int (5 : Int32)), .unset, .unset, .unset] [(.int (1 : Int32)), (.int (5 : Int32))])) (fun _ k => XT.iconstV X0.here hx rfl (1 : Int32) (hb hby at_23) rfl k) ?_
    refine own_go (B := s₁.setTop (mkF m 37 #[.val (.int p0), .val (.int (5 : Int32)), .unset, .unset, .unset] [])) (fun _ k => XS.icmpYes X0.here hx rfl (pc0 := 24) (pc' := 37) rfl (hb hby at_24) rfl (by decide) (by decide) (by decide) k) ?_
    refine own_go (B := s₁.setTop (mkF m 38 #[.val (.int p0), .val (.int (5 : Int32)), .unset, .unset, .unset] [(.int (5 : Int32))])) (fun _ k => XS.iloadN X0.here hx rfl (hb hby at_37) rfl k) ?_
    refine own_go (B := s₁.setTop (mkF m 39 #[.val (.int p0), .val (.int (5 : Int32)), .unset, .unset, .unset] [(.int (2 : Int32)), (.int (5 : Int32))])) (fun _ k => XT.iconstV X0.here hx rfl (2 : Int32) (hb hby at_38) rfl k) ?_
    refine own_go (B := s₁.setTop (mkF m 52 #[.val (.int p0), .val (.int (5 : Int32)), .unset, .unset, .unset] [])) (fun _ k => XS.icmpYes X0.here hx rfl (pc0 := 39) (pc' := 52) rfl (hb hby at_39) rfl (by decide) (by decide) (by decide) k) ?_
    refine own_go (B := s₁.setTop (mkF m 53 #[.val (.int p0), .val (.int (5 : Int32)), .unset, .unset, .unset] [(.int (5 : Int32))])) (fun _ k => XS.iloadN X0.here hx rfl (hb hby at_52) rfl k) ?_
    refine own_go (B := s₁.setTop (mkF m 54 #[.val (.int p0), .val (.int (5 : Int32)), .unset, .unset, .unset] [(.int (3 : Int32)), (.int (5 : Int32))])) (fun _ k => XT.iconstV X0.here hx rfl (3 : Int32) (hb hby at_53) rfl k) ?_
    refine own_go (B := s₁.setTop (mkF m 67 #[.val (.int p0), .val (.int (5 : Int32)), .unset, .unset, .unset] [])) (fun _ k => XS.icmpYes X0.here hx rfl (pc0 := 54) (pc' := 67) rfl (hb hby at_54) rfl (by decide) (by decide) (by decide) k) ?_
    refine own_go (B := s₁.setTop (mkF m 68 #[.val (.int p0), .val (.int (5 : Int32)), .unset, .unset, .unset] [(.int (5 : Int32))])) (fun _ k => XS.iloadN X0.here hx rfl (hb hby at_67) rfl k) ?_
    refine own_go (B := s₁.setTop (mkF m 69 #[.val (.int p0), .val (.int (5 : Int32)), .unset, .unset, .unset] [(.int (4 : Int32)), (.int (5 : Int32))])) (fun _ k => XT.iconstV X0.here hx rfl (4 : Int32) (hb hby at_68) rfl k) ?_
    refine own_go (B := s₁.setTop (mkF m 82 #[.val (.int p0), .val (.int (5 : Int32)), .unset, .unset, .unset] [])) (fun _ k => XS.icmpYes X0.here hx rfl (pc0 := 69) (pc' := 82) rfl (hb hby at_69) rfl (by decide) (by decide) (by decide) k) ?_
    refine own_go (B := s₁.setTop (mkF m 83 #[.val (.int p0), .val (.int (5 : Int32)), .unset, .unset, .unset] [(.int (5 : Int32))])) (fun _ k => XS.iloadN X0.here hx rfl (hb hby at_82) rfl k) ?_
    refine own_go (B := s₁.setTop (mkF m 84 #[.val (.int p0), .val (.int (5 : Int32)), .unset, .unset, .unset] [(.int (5 : Int32)), (.int (5 : Int32))])) (fun _ k => XT.iconstV X0.here hx rfl (5 : Int32) (hb hby at_83) rfl k) ?_
    refine own_go (B := s₁.setTop (mkF m 87 #[.val (.int p0), .val (.int (5 : Int32)), .unset, .unset, .unset] [])) (fun _ k => XS.icmpNo X0.here hx rfl (hb hby at_84) rfl (by decide) k) ?_
    obtain ⟨T21, X21, e21, st21⟩ := getS2 X0 hx hZ hown (host := "") (Or.inl (hw _ (List.mem_of_getElem? (i := 25) rfl))) Via.refl e0 (S_PUBREL.ext x0) (g := (mkF m 87 #[.val (.int p0), .val (.int (5 : Int32)), .unset, .unset, .unset] [])) rfl (hb hby at_87)
    refine own_go (B := T21.setTop (mkF m 90 #[.val (.int p0), .val (.int (5 : Int32)), .unset, .unset, .unset] [(.ref (A 2))])) st21 ?_
    refine own_go (B := T21.setTop (mkF m 91 #[.val (.int p0), .val (.int (5 : Int32)), .val (.ref (A 2)), .unset, .unset] [])) (fun _ k => XS.astoreN X21.here hx rfl (hb hby at_90) rfl rfl (l' := #[.val (.int p0), .val (.int (5 : Int32)), .val (.ref (A 2)), .unset, .unset]) rfl k) ?_
    refine own_go (B := T21.setTop (mkF m 93 #[.val (.int p0), .val (.int (5 : Int32)), .val (.ref (A 2)), .unset, .unset] [(.int (98 : Int32))])) (fun _ k => XT.bipushV X21.here hx rfl (98 : Int32) (hb hby at_91) (by decide) k) ?_
    refine own_go (B := T21.setTop (mkF m 94 #[.val (.int p0), .val (.int (5 : Int32)), .val (.ref (A 2)), .val (.int (98 : Int32)), .unset] [])) (fun _ k => XS.istoreN X21.here hx rfl (hb hby at_93) rfl (l' := #[.val (.int p0), .val (.int (5 : Int32)), .val (.ref (A 2)), .val (.int (98 : Int32)), .unset]) rfl k) ?_
    refine own_go (B := T21.setTop (mkF m 240 #[.val (.int p0), .val (.int (5 : Int32)), .val (.ref (A 2)), .val (.int (98 : Int32)), .unset] [])) (fun _ k => XS.goto X21.here hx rfl (pc0 := 94) (pc' := 240) rfl (hb hby at_94) (by decide) (by decide) k) ?_
    refine own_go (B := T21.setTop (mkF m 241 #[.val (.int p0), .val (.int (5 : Int32)), .val (.ref (A 2)), .val (.int (98 : Int32)), .unset] [(.ref (A 2))])) (fun _ k => XS.aloadN X21.here hx rfl (hb hby at_240) rfl rfl k) ?_
    obtain ⟨cq22, kq22, q22a, q22b, q22c⟩ := isOf hZ e21 (E_PUBREL.ext x0)
    obtain ⟨_, _, ⟨T22, L22, k22, n22⟩, -, X22, ⟨Lc22, hQ22, l22, y22, z22⟩, st22⟩ := X21.virtualBack hx (y := (⟨"com/example/ferrybus/ferrybus/codec/PacketType", "firstByte", "()I"⟩ : MethodName)) (z := (⟨"com/example/ferrybus/ferrybus/codec/PacketType", "firstByte", "()I"⟩ : MethodName)) hown (mvT hZ (hw _ (List.mem_of_getElem? (i := 4) rfl))) (mvT hZ (hw _ (List.mem_of_getElem? (i := 5) rfl))) (notFace_of_selects (args := #[]) (mvT hZ (hw _ (List.mem_of_getElem? (i := 7) rfl)))) (mvT hZ (hw _ (List.mem_of_getElem? (i := 7) rfl))) (mvT hZ (hw _ (List.mem_of_getElem? (i := 6) rfl))) (by decide) (own_back (W := 0) (rm1_5 l Z a0 hw []  A hW h0 x0 ) hZ (hw _ (List.mem_of_getElem? (i := 8) rfl)) (hw _ (List.mem_of_getElem? (i := 2) rfl)) (by decide) (by decide)) q22a q22c (g := (mkF m 241 #[.val (.int p0), .val (.int (5 : Int32)), .val (.ref (A 2)), .val (.int (98 : Int32)), .unset] [(.ref (A 2))])) rfl (by rw [hml]; rfl) (Steps.refl _) (argsL := []) (rest := []) (lenOf pd_0 rfl) rfl (by show 2 * 0 + _ ≤ _; exact Nat.le_of_eq rfl) (hb hby at_241) (fun _ _ => ⟨rfl, e21, (by decide : 0 + 0 ≤ _), (by decide : 0 + 0 ≤ _)⟩)
    dsimp only [Pt.U, Pt.locs, Pt.cells, Pt.slots] at X22 l22 y22 z22 st22 hQ22
    subst l22 y22 z22
    obtain ⟨rfl, N22q, e22⟩ := hQ22
    have N22 := Fr.app N0 N22q
    refine own_go (B := T22.setTop (mkF m 244 #[.val (.int p0), .val (.int (5 : Int32)), .val (.ref (A 2)), .val (.int (98 : Int32)), .unset] [(.int (98 : Int32))])) (fun _ k => st22.trans k) ?_
    refine own_go (B := T22.setTop (mkF m 246 #[.val (.int p0), .val (.int (5 : Int32)), .val (.ref (A 2)), .val (.int (98 : Int32)), .val (.int (98 : Int32))] [])) (fun _ k => XS.istore X22.here hx rfl (hb hby at_244) rfl (l' := #[.val (.int p0), .val (.int (5 : Int32)), .val (.ref (A 2)), .val (.int (98 : Int32)), .val (.int (98 : Int32))]) rfl k) ?_
    refine own_go (B := T22.setTop (mkF m 248 #[.val (.int p0), .val (.int (5 : Int32)), .val (.ref (A 2)), .val (.int (98 : Int32)), .val (.int (98 : Int32))] [(.int (98 : Int32))])) (fun _ k => XS.iload X22.here hx rfl (hb hby at_246) rfl k) ?_
    refine own_go (B := T22.setTop (mkF m 249 #[.val (.int p0), .val (.int (5 : Int32)), .val (.ref (A 2)), .val (.int (98 : Int32)), .val (.int (98 : Int32))] [(.int (98 : Int32)), (.int (98 : Int32))])) (fun _ k => XS.iloadN X22.here hx rfl (hb hby at_248) rfl k) ?_
    refine own_go (B := T22.setTop (mkF m 254 #[.val (.int p0), .val (.int (5 : Int32)), .val (.ref (A 2)), .val (.int (98 : Int32)), .val (.int (98 : Int32))] [])) (fun _ k => XS.icmpYes X22.here hx rfl (pc0 := 249) (pc' := 254) rfl (hb hby at_249) rfl (by decide) (by decide) (by decide) k) ?_
    refine own_go (B := T22.setTop (mkF m 256 #[.val (.int p0), .val (.int (5 : Int32)), .val (.ref (A 2)), .val (.int (98 : Int32)), .val (.int (98 : Int32))] [(.int (98 : Int32))])) (fun _ k => XS.iload X22.here hx rfl (hb hby at_254) rfl k) ?_
    obtain ⟨_, _, ⟨T23, L23, k23, n23⟩, -, X23, ⟨Lc23, hQ23, l23, y23, z23⟩, st23⟩ := Jvm.LawKit.callS X22 hx (y := (⟨"com/example/ferrybus/ferrybus/codec/PacketType", "of", "(I)Lcom/example/ferrybus/ferrybus/codec/PacketType;"⟩ : MethodName)) hown (mvT hZ (hw _ (List.mem_of_getElem? (i := 13) rfl))) (mvT hZ (hw _ (List.mem_of_getElem? (i := 14) rfl))) (mvT hZ (hw _ (List.mem_of_getElem? (i := 2) rfl))) (mvT hZ (hw _ (List.mem_of_getElem? (i := 15) rfl))) (by decide) (own_back (W := 0) (rm2_5 l Z a0 hw []  A hW h0 x0 ) hZ (hw _ (List.mem_of_getElem? (i := 15) rfl)) (hw _ (List.mem_of_getElem? (i := 2) rfl)) (by decide) (by decide)) (g := (mkF m 256 #[.val (.int p0), .val (.int (5 : Int32)), .val (.ref (A 2)), .val (.int (98 : Int32)), .val (.int (98 : Int32))] [(.int (98 : Int32))])) rfl (by rw [hml]; rfl) (argsL := [(.int (98 : Int32))]) (rest := []) (lenOf pd_1 rfl) rfl (by show 2 * 0 + _ ≤ _; exact Nat.le_of_eq rfl) (hb hby at_256) (fun _ _ => ⟨rfl, e22, (by decide : 0 + 0 ≤ _), (by decide : 0 + 0 ≤ _)⟩)
    dsimp only [Pt.U, Pt.locs, Pt.cells, Pt.slots] at X23 l23 y23 z23 st23 hQ23
    subst l23 y23 z23
    obtain ⟨rfl, N23q, e23⟩ := hQ23
    have N23 := Fr.app N22 N23q
    refine own_go (B := T23.setTop (mkF m 259 #[.val (.int p0), .val (.int (5 : Int32)), .val (.ref (A 2)), .val (.int (98 : Int32)), .val (.int (98 : Int32))] [(.ref (A 2))])) st23 ?_
    refine own_go (B := T23.setTop (mkF m 260 #[.val (.int p0), .val (.int (5 : Int32)), .val (.ref (A 2)), .val (.int (98 : Int32)), .val (.int (98 : Int32))] [(.ref (A 2)), (.ref (A 2))])) (fun _ k => XS.aloadN X23.here hx rfl (hb hby at_259) rfl rfl k) ?_
    refine own_go (B := T23.setTop (mkF m 263 #[.val (.int p0), .val (.int (5 : Int32)), .val (.ref (A 2)), .val (.int (98 : Int32)), .val (.int (98 : Int32))] [])) (fun _ k => Jvm.RoadKit.acmp (g := (mkF m 260 #[.val (.int p0), .val (.int (5 : Int32)), .val (.ref (A 2)), .val (.int (98 : Int32)), .val (.int (98 : Int32))] [(.ref (A 2)), (.ref (A 2))])) X23 hx rfl rfl rfl (pc0 := 260) (pc' := 263) (same := true) rfl (hb hby at_260) rfl (decide_eq_true rfl) (by decide) (by decide) k) ?_
    refine own_go (B := T23.setTop (mkF m 264 #[.val (.int p0), .val (.int (5 : Int32)), .val (.ref (A 2)), .val (.int (98 : Int32)), .val (.int (98 : Int32))] [(.ref (A 2))])) (fun _ k => XS.aloadN X23.here hx rfl (hb hby at_263) rfl rfl k) ?_
    refine own_go (B := T23.setTop (mkF m 266 #[.val (.int p0), .val (.int (5 : Int32)), .val (.ref (A 2)), .val (.int (98 : Int32)), .val (.int (98 : Int32))] [(.int (98 : Int32)), (.ref (A 2))])) (fun _ k => XS.iload X23.here hx rfl (hb hby at_264) rfl k) ?_
    refine own_go (B := T23.setTop (mkF m 268 #[.val (.int p0), .val (.int (5 : Int32)), .val (.ref (A 2)), .val (.int (98 : Int32)), .val (.int (98 : Int32))] [(.int (15 : Int32)), (.int (98 : Int32)), (.ref (A 2))])) (fun _ k => XT.bipushV X23.here hx rfl (15 : Int32) (hb hby at_266) (by decide) k) ?_
    refine own_go (B := T23.setTop (mkF m 269 #[.val (.int p0), .val (.int (5 : Int32)), .val (.ref (A 2)), .val (.int (98 : Int32)), .val (.int (98 : Int32))] [(.int ((98 : Int32) &&& (15 : Int32))), (.ref (A 2))])) (fun _ k => XS.iand X23.here hx rfl (hb hby at_268) rfl k) ?_
    obtain ⟨cq24, kq24, q24a, q24b, q24c⟩ := isOf hZ e23 (E_PUBREL.ext x0)
    obtain ⟨_, _, ⟨T24, L24, k24, n24⟩, -, X24, ⟨Lc24, hQ24, l24, y24, z24⟩, st24⟩ := X23.virtualBack hx (y := (⟨"com/example/ferrybus/ferrybus/codec/PacketType", "allows", "(I)Z"⟩ : MethodName)) (z := (⟨"com/example/ferrybus/ferrybus/codec/PacketType", "allows", "(I)Z"⟩ : MethodName)) hown (mvT hZ (hw _ (List.mem_of_getElem? (i := 18) rfl))) (mvT hZ (hw _ (List.mem_of_getElem? (i := 19) rfl))) (notFace_of_selects (args := #[]) (mvT hZ (hw _ (List.mem_of_getElem? (i := 21) rfl)))) (mvT hZ (hw _ (List.mem_of_getElem? (i := 21) rfl))) (mvT hZ (hw _ (List.mem_of_getElem? (i := 20) rfl))) (by decide) (own_back (W := 0) (rm3_5 l Z a0 hw []  A hW h0 x0 ) hZ (hw _ (List.mem_of_getElem? (i := 22) rfl)) (hw _ (List.mem_of_getElem? (i := 2) rfl)) (by decide) (by decide)) q24a q24c (g := (mkF m 269 #[.val (.int p0), .val (.int (5 : Int32)), .val (.ref (A 2)), .val (.int (98 : Int32)), .val (.int (98 : Int32))] [(.int ((98 : Int32) &&& (15 : Int32))), (.ref (A 2))])) rfl (by rw [hml]; rfl) (Steps.refl _) (argsL := [(.int ((98 : Int32) &&& (15 : Int32)))]) (rest := []) (lenOf pd_2 rfl) rfl (by show 2 * 0 + _ ≤ _; exact Nat.le_of_eq rfl) (hb hby at_269) (fun _ _ => ⟨rfl, e23, (by decide : 0 + 0 ≤ _), (by decide : 0 + 0 ≤ _)⟩)
    dsimp only [Pt.U, Pt.locs, Pt.cells, Pt.slots] at X24 l24 y24 z24 st24 hQ24
    subst l24 y24 z24
    obtain ⟨rfl, N24q, e24⟩ := hQ24
    have N24 := Fr.app N23 N24q
    refine own_go (B := T24.setTop (mkF m 272 #[.val (.int p0), .val (.int (5 : Int32)), .val (.ref (A 2)), .val (.int (98 : Int32)), .val (.int (98 : Int32))] [(.int (1 : Int32))])) (fun _ k => st24.trans k) ?_
    refine own_go (B := T24.setTop (mkF m 275 #[.val (.int p0), .val (.int (5 : Int32)), .val (.ref (A 2)), .val (.int (98 : Int32)), .val (.int (98 : Int32))] [])) (fun _ k => XS.ifNo X24.here hx rfl (hb hby at_272) rfl (by decide) k) ?_
    refine own_go (B := T24.setTop (mkF m 276 #[.val (.int p0), .val (.int (5 : Int32)), .val (.ref (A 2)), .val (.int (98 : Int32)), .val (.int (98 : Int32))] [(.int (1 : Int32))])) (fun _ k => XT.iconstV X24.here hx rfl (1 : Int32) (hb hby at_275) rfl k) ?_
    refine own_go (B := T24.setTop (mkF m 280 #[.val (.int p0), .val (.int (5 : Int32)), .val (.ref (A 2)), .val (.int (98 : Int32)), .val (.int (98 : Int32))] [(.int (1 : Int32))])) (fun _ k => XS.goto X24.here hx rfl (pc0 := 276) (pc' := 280) rfl (hb hby at_276) (by decide) (by decide) k) ?_
    exact own_ret X24 hx (t := .boolean) hrt rfl (Or.inl ⟨rfl, by simp, _, rfl⟩) (hb hby at_280) hlk ⟨rfl, N24⟩ (by decide) (by decide)
  · refine own_go (B := s₁.setTop (mkF m 9 #[.val (.int p0), .val (.int (6 : Int32)), .unset, .unset, .unset] [(.int (6 : Int32))])) (fun _ k => XS.iloadN X0.here hx rfl (hb hby at_8) rfl k) ?_
    refine own_go (B := s₁.setTop (mkF m 22 #[.val (.int p0), .val (.int (6 : Int32)), .unset, .unset, .unset] [])) (fun _ k => XS.ifYes X0.here hx rfl (pc0 := 9) (pc' := 22) rfl (hb hby at_9) rfl (by decide) (by decide) (by decide) k) ?_
    refine own_go (B := s₁.setTop (mkF m 23 #[.val (.int p0), .val (.int (6 : Int32)), .unset, .unset, .unset] [(.int (6 : Int32))])) (fun _ k => XS.iloadN X0.here hx rfl (hb hby at_22) rfl k) ?_
    refine own_go (B := s₁.setTop (mkF m 24 #[.val (.int p0), .val (.int (6 : Int32)), .unset, .unset, .unset] [(.int (1 : Int32)), (.int (6 : Int32))])) (fun _ k => XT.iconstV X0.here hx rfl (1 : Int32) (hb hby at_23) rfl k) ?_
    refine own_go (B := s₁.setTop (mkF m 37 #[.val (.int p0), .val (.int (6 : Int32)), .unset, .unset, .unset] [])) (fun _ k => XS.icmpYes X0.here hx rfl (pc0 := 24) (pc' := 37) rfl (hb hby at_24) rfl (by decide) (by decide) (by decide) k) ?_
    refine own_go (B := s₁.setTop (mkF m 38 #[.val (.int p0), .val (.int (6 : Int32)), .unset, .unset, .unset] [(.int (6 : Int32))])) (fun _ k => XS.iloadN X0.here hx rfl (hb hby at_37) rfl k) ?_
    refine own_go (B := s₁.setTop (mkF m 39 #[.val (.int p0), .val (.int (6 : Int32)), .unset, .unset, .unset] [(.int (2 : Int32)), (.int (6 : Int32))])) (fun _ k => XT.iconstV X0.here hx rfl (2 : Int32) (hb hby at_38) rfl k) ?_
    refine own_go (B := s₁.setTop (mkF m 52 #[.val (.int p0), .val (.int (6 : Int32)), .unset, .unset, .unset] [])) (fun _ k => XS.icmpYes X0.here hx rfl (pc0 := 39) (pc' := 52) rfl (hb hby at_39) rfl (by decide) (by decide) (by decide) k) ?_
    refine own_go (B := s₁.setTop (mkF m 53 #[.val (.int p0), .val (.int (6 : Int32)), .unset, .unset, .unset] [(.int (6 : Int32))])) (fun _ k => XS.iloadN X0.here hx rfl (hb hby at_52) rfl k) ?_
    refine own_go (B := s₁.setTop (mkF m 54 #[.val (.int p0), .val (.int (6 : Int32)), .unset, .unset, .unset] [(.int (3 : Int32)), (.int (6 : Int32))])) (fun _ k => XT.iconstV X0.here hx rfl (3 : Int32) (hb hby at_53) rfl k) ?_
    refine own_go (B := s₁.setTop (mkF m 67 #[.val (.int p0), .val (.int (6 : Int32)), .unset, .unset, .unset] [])) (fun _ k => XS.icmpYes X0.here hx rfl (pc0 := 54) (pc' := 67) rfl (hb hby at_54) rfl (by decide) (by decide) (by decide) k) ?_
    refine own_go (B := s₁.setTop (mkF m 68 #[.val (.int p0), .val (.int (6 : Int32)), .unset, .unset, .unset] [(.int (6 : Int32))])) (fun _ k => XS.iloadN X0.here hx rfl (hb hby at_67) rfl k) ?_
    refine own_go (B := s₁.setTop (mkF m 69 #[.val (.int p0), .val (.int (6 : Int32)), .unset, .unset, .unset] [(.int (4 : Int32)), (.int (6 : Int32))])) (fun _ k => XT.iconstV X0.here hx rfl (4 : Int32) (hb hby at_68) rfl k) ?_
    refine own_go (B := s₁.setTop (mkF m 82 #[.val (.int p0), .val (.int (6 : Int32)), .unset, .unset, .unset] [])) (fun _ k => XS.icmpYes X0.here hx rfl (pc0 := 69) (pc' := 82) rfl (hb hby at_69) rfl (by decide) (by decide) (by decide) k) ?_
    refine own_go (B := s₁.setTop (mkF m 83 #[.val (.int p0), .val (.int (6 : Int32)), .unset, .unset, .unset] [(.int (6 : Int32))])) (fun _ k => XS.iloadN X0.here hx rfl (hb hby at_82) rfl k) ?_
    refine own_go (B := s₁.setTop (mkF m 84 #[.val (.int p0), .val (.int (6 : Int32)), .unset, .unset, .unset] [(.int (5 : Int32)), (.int (6 : Int32))])) (fun _ k => XT.iconstV X0.here hx rfl (5 : Int32) (hb hby at_83) rfl k) ?_
    refine own_go (B := s₁.setTop (mkF m 97 #[.val (.int p0), .val (.int (6 : Int32)), .unset, .unset, .unset] [])) (fun _ k => XS.icmpYes X0.here hx rfl (pc0 := 84) (pc' := 97) rfl (hb hby at_84) rfl (by decide) (by decide) (by decide) k) ?_
    refine own_go (B := s₁.setTop (mkF m 98 #[.val (.int p0), .val (.int (6 : Int32)), .unset, .unset, .unset] [(.int (6 : Int32))])) (fun _ k => XS.iloadN X0.here hx rfl (hb hby at_97) rfl k) ?_
    refine own_go (B := s₁.setTop (mkF m 100 #[.val (.int p0), .val (.int (6 : Int32)), .unset, .unset, .unset] [(.int (6 : Int32)), (.int (6 : Int32))])) (fun _ k => XT.bipushV X0.here hx rfl (6 : Int32) (hb hby at_98) (by decide) k) ?_
    refine own_go (B := s₁.setTop (mkF m 103 #[.val (.int p0), .val (.int (6 : Int32)), .unset, .unset, .unset] [])) (fun _ k => XS.icmpNo X0.here hx rfl (hb hby at_100) rfl (by decide) k) ?_
    obtain ⟨T25, X25, e25, st25⟩ := getS2 X0 hx hZ hown (host := "") (Or.inl (hw _ (List.mem_of_getElem? (i := 29) rfl))) Via.refl e0 (S_PUBCOMP.ext x0) (g := (mkF m 103 #[.val (.int p0), .val (.int (6 : Int32)), .unset, .unset, .unset] [])) rfl (hb hby at_103)
    refine own_go (B := T25.setTop (mkF m 106 #[.val (.int p0), .val (.int (6 : Int32)), .unset, .unset, .unset] [(.ref (A 4))])) st25 ?_
    refine own_go (B := T25.setTop (mkF m 107 #[.val (.int p0), .val (.int (6 : Int32)), .val (.ref (A 4)), .unset, .unset] [])) (fun _ k => XS.astoreN X25.here hx rfl (hb hby at_106) rfl rfl (l' := #[.val (.int p0), .val (.int (6 : Int32)), .val (.ref (A 4)), .unset, .unset]) rfl k) ?_
    refine own_go (B := T25.setTop (mkF m 109 #[.val (.int p0), .val (.int (6 : Int32)), .val (.ref (A 4)), .unset, .unset] [(.int (112 : Int32))])) (fun _ k => XT.bipushV X25.here hx rfl (112 : Int32) (hb hby at_107) (by decide) k) ?_
    refine own_go (B := T25.setTop (mkF m 110 #[.val (.int p0), .val (.int (6 : Int32)), .val (.ref (A 4)), .val (.int (112 : Int32)), .unset] [])) (fun _ k => XS.istoreN X25.here hx rfl (hb hby at_109) rfl (l' := #[.val (.int p0), .val (.int (6 : Int32)), .val (.ref (A 4)), .val (.int (112 : Int32)), .unset]) rfl k) ?_
    refine own_go (B := T25.setTop (mkF m 240 #[.val (.int p0), .val (.int (6 : Int32)), .val (.ref (A 4)), .val (.int (112 : Int32)), .unset] [])) (fun _ k => XS.goto X25.here hx rfl (pc0 := 110) (pc' := 240) rfl (hb hby at_110) (by decide) (by decide) k) ?_
    refine own_go (B := T25.setTop (mkF m 241 #[.val (.int p0), .val (.int (6 : Int32)), .val (.ref (A 4)), .val (.int (112 : Int32)), .unset] [(.ref (A 4))])) (fun _ k => XS.aloadN X25.here hx rfl (hb hby at_240) rfl rfl k) ?_
    obtain ⟨cq26, kq26, q26a, q26b, q26c⟩ := isOf hZ e25 (E_PUBCOMP.ext x0)
    obtain ⟨_, _, ⟨T26, L26, k26, n26⟩, -, X26, ⟨Lc26, hQ26, l26, y26, z26⟩, st26⟩ := X25.virtualBack hx (y := (⟨"com/example/ferrybus/ferrybus/codec/PacketType", "firstByte", "()I"⟩ : MethodName)) (z := (⟨"com/example/ferrybus/ferrybus/codec/PacketType", "firstByte", "()I"⟩ : MethodName)) hown (mvT hZ (hw _ (List.mem_of_getElem? (i := 4) rfl))) (mvT hZ (hw _ (List.mem_of_getElem? (i := 5) rfl))) (notFace_of_selects (args := #[]) (mvT hZ (hw _ (List.mem_of_getElem? (i := 7) rfl)))) (mvT hZ (hw _ (List.mem_of_getElem? (i := 7) rfl))) (mvT hZ (hw _ (List.mem_of_getElem? (i := 6) rfl))) (by decide) (own_back (W := 0) (rm1_6 l Z a0 hw []  A hW h0 x0 ) hZ (hw _ (List.mem_of_getElem? (i := 8) rfl)) (hw _ (List.mem_of_getElem? (i := 2) rfl)) (by decide) (by decide)) q26a q26c (g := (mkF m 241 #[.val (.int p0), .val (.int (6 : Int32)), .val (.ref (A 4)), .val (.int (112 : Int32)), .unset] [(.ref (A 4))])) rfl (by rw [hml]; rfl) (Steps.refl _) (argsL := []) (rest := []) (lenOf pd_0 rfl) rfl (by show 2 * 0 + _ ≤ _; exact Nat.le_of_eq rfl) (hb hby at_241) (fun _ _ => ⟨rfl, e25, (by decide : 0 + 0 ≤ _), (by decide : 0 + 0 ≤ _)⟩)
    dsimp only [Pt.U, Pt.locs, Pt.cells, Pt.slots] at X26 l26 y26 z26 st26 hQ26
    subst l26 y26 z26
    obtain ⟨rfl, N26q, e26⟩ := hQ26
    have N26 := Fr.app N0 N26q
    refine own_go (B := T26.setTop (mkF m 244 #[.val (.int p0), .val (.int (6 : Int32)), .val (.ref (A 4)), .val (.int (112 : Int32)), .unset] [(.int (112 : Int32))])) (fun _ k => st26.trans k) ?_
    refine own_go (B := T26.setTop (mkF m 246 #[.val (.int p0), .val (.int (6 : Int32)), .val (.ref (A 4)), .val (.int (112 : Int32)), .val (.int (112 : Int32))] [])) (fun _ k => XS.istore X26.here hx rfl (hb hby at_244) rfl (l' := #[.val (.int p0), .val (.int (6 : Int32)), .val (.ref (A 4)), .val (.int (112 : Int32)), .val (.int (112 : Int32))]) rfl k) ?_
    refine own_go (B := T26.setTop (mkF m 248 #[.val (.int p0), .val (.int (6 : Int32)), .val (.ref (A 4)), .val (.int (112 : Int32)), .val (.int (112 : Int32))] [(.int (112 : Int32))])) (fun _ k => XS.iload X26.here hx rfl (hb hby at_246) rfl k) ?_
    refine own_go (B := T26.setTop (mkF m 249 #[.val (.int p0), .val (.int (6 : Int32)), .val (.ref (A 4)), .val (.int (112 : Int32)), .val (.int (112 : Int32))] [(.int (112 : Int32)), (.int (112 : Int32))])) (fun _ k => XS.iloadN X26.here hx rfl (hb hby at_248) rfl k) ?_
    refine own_go (B := T26.setTop (mkF m 254 #[.val (.int p0), .val (.int (6 : Int32)), .val (.ref (A 4)), .val (.int (112 : Int32)), .val (.int (112 : Int32))] [])) (fun _ k => XS.icmpYes X26.here hx rfl (pc0 := 249) (pc' := 254) rfl (hb hby at_249) rfl (by decide) (by decide) (by decide) k) ?_
    refine own_go (B := T26.setTop (mkF m 256 #[.val (.int p0), .val (.int (6 : Int32)), .val (.ref (A 4)), .val (.int (112 : Int32)), .val (.int (112 : Int32))] [(.int (112 : Int32))])) (fun _ k => XS.iload X26.here hx rfl (hb hby at_254) rfl k) ?_
    obtain ⟨_, _, ⟨T27, L27, k27, n27⟩, -, X27, ⟨Lc27, hQ27, l27, y27, z27⟩, st27⟩ := Jvm.LawKit.callS X26 hx (y := (⟨"com/example/ferrybus/ferrybus/codec/PacketType", "of", "(I)Lcom/example/ferrybus/ferrybus/codec/PacketType;"⟩ : MethodName)) hown (mvT hZ (hw _ (List.mem_of_getElem? (i := 13) rfl))) (mvT hZ (hw _ (List.mem_of_getElem? (i := 14) rfl))) (mvT hZ (hw _ (List.mem_of_getElem? (i := 2) rfl))) (mvT hZ (hw _ (List.mem_of_getElem? (i := 15) rfl))) (by decide) (own_back (W := 0) (rm2_6 l Z a0 hw []  A hW h0 x0 ) hZ (hw _ (List.mem_of_getElem? (i := 15) rfl)) (hw _ (List.mem_of_getElem? (i := 2) rfl)) (by decide) (by decide)) (g := (mkF m 256 #[.val (.int p0), .val (.int (6 : Int32)), .val (.ref (A 4)), .val (.int (112 : Int32)), .val (.int (112 : Int32))] [(.int (112 : Int32))])) rfl (by rw [hml]; rfl) (argsL := [(.int (112 : Int32))]) (rest := []) (lenOf pd_1 rfl) rfl (by show 2 * 0 + _ ≤ _; exact Nat.le_of_eq rfl) (hb hby at_256) (fun _ _ => ⟨rfl, e26, (by decide : 0 + 0 ≤ _), (by decide : 0 + 0 ≤ _)⟩)
    dsimp only [Pt.U, Pt.locs, Pt.cells, Pt.slots] at X27 l27 y27 z27 st27 hQ27
    subst l27 y27 z27
    obtain ⟨rfl, N27q, e27⟩ := hQ27
    have N27 := Fr.app N26 N27q
    refine own_go (B := T27.setTop (mkF m 259 #[.val (.int p0), .val (.int (6 : Int32)), .val (.ref (A 4)), .val (.int (112 : Int32)), .val (.int (112 : Int32))] [(.ref (A 4))])) st27 ?_
    refine own_go (B := T27.setTop (mkF m 260 #[.val (.int p0), .val (.int (6 : Int32)), .val (.ref (A 4)), .val (.int (112 : Int32)), .val (.int (112 : Int32))] [(.ref (A 4)), (.ref (A 4))])) (fun _ k => XS.aloadN X27.here hx rfl (hb hby at_259) rfl rfl k) ?_
    refine own_go (B := T27.setTop (mkF m 263 #[.val (.int p0), .val (.int (6 : Int32)), .val (.ref (A 4)), .val (.int (112 : Int32)), .val (.int (112 : Int32))] [])) (fun _ k => Jvm.RoadKit.acmp (g := (mkF m 260 #[.val (.int p0), .val (.int (6 : Int32)), .val (.ref (A 4)), .val (.int (112 : Int32)), .val (.int (112 : Int32))] [(.ref (A 4)), (.ref (A 4))])) X27 hx rfl rfl rfl (pc0 := 260) (pc' := 263) (same := true) rfl (hb hby at_260) rfl (decide_eq_true rfl) (by decide) (by decide) k) ?_
    refine own_go (B := T27.setTop (mkF m 264 #[.val (.int p0), .val (.int (6 : Int32)), .val (.ref (A 4)), .val (.int (112 : Int32)), .val (.int (112 : Int32))] [(.ref (A 4))])) (fun _ k => XS.aloadN X27.here hx rfl (hb hby at_263) rfl rfl k) ?_
    refine own_go (B := T27.setTop (mkF m 266 #[.val (.int p0), .val (.int (6 : Int32)), .val (.ref (A 4)), .val (.int (112 : Int32)), .val (.int (112 : Int32))] [(.int (112 : Int32)), (.ref (A 4))])) (fun _ k => XS.iload X27.here hx rfl (hb hby at_264) rfl k) ?_
    refine own_go (B := T27.setTop (mkF m 268 #[.val (.int p0), .val (.int (6 : Int32)), .val (.ref (A 4)), .val (.int (112 : Int32)), .val (.int (112 : Int32))] [(.int (15 : Int32)), (.int (112 : Int32)), (.ref (A 4))])) (fun _ k => XT.bipushV X27.here hx rfl (15 : Int32) (hb hby at_266) (by decide) k) ?_
    refine own_go (B := T27.setTop (mkF m 269 #[.val (.int p0), .val (.int (6 : Int32)), .val (.ref (A 4)), .val (.int (112 : Int32)), .val (.int (112 : Int32))] [(.int ((112 : Int32) &&& (15 : Int32))), (.ref (A 4))])) (fun _ k => XS.iand X27.here hx rfl (hb hby at_268) rfl k) ?_
    obtain ⟨cq28, kq28, q28a, q28b, q28c⟩ := isOf hZ e27 (E_PUBCOMP.ext x0)
    obtain ⟨_, _, ⟨T28, L28, k28, n28⟩, -, X28, ⟨Lc28, hQ28, l28, y28, z28⟩, st28⟩ := X27.virtualBack hx (y := (⟨"com/example/ferrybus/ferrybus/codec/PacketType", "allows", "(I)Z"⟩ : MethodName)) (z := (⟨"com/example/ferrybus/ferrybus/codec/PacketType", "allows", "(I)Z"⟩ : MethodName)) hown (mvT hZ (hw _ (List.mem_of_getElem? (i := 18) rfl))) (mvT hZ (hw _ (List.mem_of_getElem? (i := 19) rfl))) (notFace_of_selects (args := #[]) (mvT hZ (hw _ (List.mem_of_getElem? (i := 21) rfl)))) (mvT hZ (hw _ (List.mem_of_getElem? (i := 21) rfl))) (mvT hZ (hw _ (List.mem_of_getElem? (i := 20) rfl))) (by decide) (own_back (W := 0) (rm3_6 l Z a0 hw []  A hW h0 x0 ) hZ (hw _ (List.mem_of_getElem? (i := 22) rfl)) (hw _ (List.mem_of_getElem? (i := 2) rfl)) (by decide) (by decide)) q28a q28c (g := (mkF m 269 #[.val (.int p0), .val (.int (6 : Int32)), .val (.ref (A 4)), .val (.int (112 : Int32)), .val (.int (112 : Int32))] [(.int ((112 : Int32) &&& (15 : Int32))), (.ref (A 4))])) rfl (by rw [hml]; rfl) (Steps.refl _) (argsL := [(.int ((112 : Int32) &&& (15 : Int32)))]) (rest := []) (lenOf pd_2 rfl) rfl (by show 2 * 0 + _ ≤ _; exact Nat.le_of_eq rfl) (hb hby at_269) (fun _ _ => ⟨rfl, e27, (by decide : 0 + 0 ≤ _), (by decide : 0 + 0 ≤ _)⟩)
    dsimp only [Pt.U, Pt.locs, Pt.cells, Pt.slots] at X28 l28 y28 z28 st28 hQ28
    subst l28 y28 z28
    obtain ⟨rfl, N28q, e28⟩ := hQ28
    have N28 := Fr.app N27 N28q
    refine own_go (B := T28.setTop (mkF m 272 #[.val (.int p0), .val (.int (6 : Int32)), .val (.ref (A 4)), .val (.int (112 : Int32)), .val (.int (112 : Int32))] [(.int (1 : Int32))])) (fun _ k => st28.trans k) ?_
    refine own_go (B := T28.setTop (mkF m 275 #[.val (.int p0), .val (.int (6 : Int32)), .val (.ref (A 4)), .val (.int (112 : Int32)), .val (.int (112 : Int32))] [])) (fun _ k => XS.ifNo X28.here hx rfl (hb hby at_272) rfl (by decide) k) ?_
    refine own_go (B := T28.setTop (mkF m 276 #[.val (.int p0), .val (.int (6 : Int32)), .val (.ref (A 4)), .val (.int (112 : Int32)), .val (.int (112 : Int32))] [(.int (1 : Int32))])) (fun _ k => XT.iconstV X28.here hx rfl (1 : Int32) (hb hby at_275) rfl k) ?_
    refine own_go (B := T28.setTop (mkF m 280 #[.val (.int p0), .val (.int (6 : Int32)), .val (.ref (A 4)), .val (.int (112 : Int32)), .val (.int (112 : Int32))] [(.int (1 : Int32))])) (fun _ k => XS.goto X28.here hx rfl (pc0 := 276) (pc' := 280) rfl (hb hby at_276) (by decide) (by decide) k) ?_
    exact own_ret X28 hx (t := .boolean) hrt rfl (Or.inl ⟨rfl, by simp, _, rfl⟩) (hb hby at_280) hlk ⟨rfl, N28⟩ (by decide) (by decide)
  · refine own_go (B := s₁.setTop (mkF m 9 #[.val (.int p0), .val (.int (7 : Int32)), .unset, .unset, .unset] [(.int (7 : Int32))])) (fun _ k => XS.iloadN X0.here hx rfl (hb hby at_8) rfl k) ?_
    refine own_go (B := s₁.setTop (mkF m 22 #[.val (.int p0), .val (.int (7 : Int32)), .unset, .unset, .unset] [])) (fun _ k => XS.ifYes X0.here hx rfl (pc0 := 9) (pc' := 22) rfl (hb hby at_9) rfl (by decide) (by decide) (by decide) k) ?_
    refine own_go (B := s₁.setTop (mkF m 23 #[.val (.int p0), .val (.int (7 : Int32)), .unset, .unset, .unset] [(.int (7 : Int32))])) (fun _ k => XS.iloadN X0.here hx rfl (hb hby at_22) rfl k) ?_
    refine own_go (B := s₁.setTop (mkF m 24 #[.val (.int p0), .val (.int (7 : Int32)), .unset, .unset, .unset] [(.int (1 : Int32)), (.int (7 : Int32))])) (fun _ k => XT.iconstV X0.here hx rfl (1 : Int32) (hb hby at_23) rfl k) ?_
    refine own_go (B := s₁.setTop (mkF m 37 #[.val (.int p0), .val (.int (7 : Int32)), .unset, .unset, .unset] [])) (fun _ k => XS.icmpYes X0.here hx rfl (pc0 := 24) (pc' := 37) rfl (hb hby at_24) rfl (by decide) (by decide) (by decide) k) ?_
    refine own_go (B := s₁.setTop (mkF m 38 #[.val (.int p0), .val (.int (7 : Int32)), .unset, .unset, .unset] [(.int (7 : Int32))])) (fun _ k => XS.iloadN X0.here hx rfl (hb hby at_37) rfl k) ?_
    refine own_go (B := s₁.setTop (mkF m 39 #[.val (.int p0), .val (.int (7 : Int32)), .unset, .unset, .unset] [(.int (2 : Int32)), (.int (7 : Int32))])) (fun _ k => XT.iconstV X0.here hx rfl (2 : Int32) (hb hby at_38) rfl k) ?_
    refine own_go (B := s₁.setTop (mkF m 52 #[.val (.int p0), .val (.int (7 : Int32)), .unset, .unset, .unset] [])) (fun _ k => XS.icmpYes X0.here hx rfl (pc0 := 39) (pc' := 52) rfl (hb hby at_39) rfl (by decide) (by decide) (by decide) k) ?_
    refine own_go (B := s₁.setTop (mkF m 53 #[.val (.int p0), .val (.int (7 : Int32)), .unset, .unset, .unset] [(.int (7 : Int32))])) (fun _ k => XS.iloadN X0.here hx rfl (hb hby at_52) rfl k) ?_
    refine own_go (B := s₁.setTop (mkF m 54 #[.val (.int p0), .val (.int (7 : Int32)), .unset, .unset, .unset] [(.int (3 : Int32)), (.int (7 : Int32))])) (fun _ k => XT.iconstV X0.here hx rfl (3 : Int32) (hb hby at_53) rfl k) ?_
    refine own_go (B := s₁.setTop (mkF m 67 #[.val (.int p0), .val (.int (7 : Int32)), .unset, .unset, .unset] [])) (fun _ k => XS.icmpYes X0.here hx rfl (pc0 := 54) (pc' := 67) rfl (hb hby at_54) rfl (by decide) (by decide) (by decide) k) ?_
    refine own_go (B := s₁.setTop (mkF m 68 #[.val (.int p0), .val (.int (7 : Int32)), .unset, .unset, .unset] [(.int (7 : Int32))])) (fun _ k => XS.iloadN X0.here hx rfl (hb hby at_67) rfl k) ?_
    refine own_go (B := s₁.setTop (mkF m 69 #[.val (.int p0), .val (.int (7 : Int32)), .unset, .unset, .unset] [(.int (4 : Int32)), (.int (7 : Int32))])) (fun _ k => XT.iconstV X0.here hx rfl (4 : Int32) (hb hby at_68) rfl k) ?_
    refine own_go (B := s₁.setTop (mkF m 82 #[.val (.int p0), .val (.int (7 : Int32)), .unset, .unset, .unset] [])) (fun _ k => XS.icmpYes X0.here hx rfl (pc0 := 69) (pc' := 82) rfl (hb hby at_69) rfl (by decide) (by decide) (by decide) k) ?_
    refine own_go (B := s₁.setTop (mkF m 83 #[.val (.int p0), .val (.int (7 : Int32)), .unset, .unset, .unset] [(.int (7 : Int32))])) (fun _ k => XS.iloadN X0.here hx rfl (hb hby at_82) rfl k) ?_
    refine own_go (B := s₁.setTop (mkF m 84 #[.val (.int p0), .val (.int (7 : Int32)), .unset, .unset, .unset] [(.int (5 : Int32)), (.int (7 : Int32))])) (fun _ k => XT.iconstV X0.here hx rfl (5 : Int32) (hb hby at_83) rfl k) ?_
    refine own_go (B := s₁.setTop (mkF m 97 #[.val (.int p0), .val (.int (7 : Int32)), .unset, .unset, .unset] [])) (fun _ k => XS.icmpYes X0.here hx rfl (pc0 := 84) (pc' := 97) rfl (hb hby at_84) rfl (by decide) (by decide) (by decide) k) ?_
    refine own_go (B := s₁.setTop (mkF m 98 #[.val (.int p0), .val (.int (7 : Int32)), .unset, .unset, .unset] [(.int (7 : Int32))])) (fun _ k => XS.iloadN X0.here hx rfl (hb hby at_97) rfl k) ?_
    refine own_go (B := s₁.setTop (mkF m 100 #[.val (.int p0), .val (.int (7 : Int32)), .unset, .unset, .unset] [(.int (6 : Int32)), (.int (7 : Int32))])) (fun _ k => XT.bipushV X0.here hx rfl (6 : Int32) (hb hby at_98) (by decide) k) ?_
    refine own_go (B := s₁.setTop (mkF m 113 #[.val (.int p0), .val (.int (7 : Int32)), .unset, .unset, .unset] [])) (fun _ k => XS.icmpYes X0.here hx rfl (pc0 := 100) (pc' := 113) rfl (hb hby at_100) rfl (by decide) (by decide) (by decide) k) ?_
    refine own_go (B := s₁.setTop (mkF m 114 #[.val (.int p0), .val (.int (7 : Int32)), .unset, .unset, .unset] [(.int (7 : Int32))])) (fun _ k => XS.iloadN X0.here hx rfl (hb hby at_113) rfl k) ?_
    refine own_go (B := s₁.setTop (mkF m 116 #[.val (.int p0), .val (.int (7 : Int32)), .unset, .unset, .unset] [(.int (7 : Int32)), (.int (7 : Int32))])) (fun _ k => XT.bipushV X0.here hx rfl (7 : Int32) (hb hby at_114) (by decide) k) ?_
    refine own_go (B := s₁.setTop (mkF m 119 #[.val (.int p0), .val (.int (7 : Int32)), .unset, .unset, .unset] [])) (fun _ k => XS.icmpNo X0.here hx rfl (hb hby at_116) rfl (by decide) k) ?_
    obtain ⟨T29, X29, e29, st29⟩ := getS2 X0 hx hZ hown (host := "") (Or.inl (hw _ (List.mem_of_getElem? (i := 33) rfl))) Via.refl e0 (S_SUBSCRIBE.ext x0) (g := (mkF m 119 #[.val (.int p0), .val (.int (7 : Int32)), .unset, .unset, .unset] [])) rfl (hb hby at_119)
    refine own_go (B := T29.setTop (mkF m 122 #[.val (.int p0), .val (.int (7 : Int32)), .unset, .unset, .unset] [(.ref (A 6))])) st29 ?_
    refine own_go (B := T29.setTop (mkF m 123 #[.val (.int p0), .val (.int (7 : Int32)), .val (.ref (A 6)), .unset, .unset] [])) (fun _ k => XS.astoreN X29.here hx rfl (hb hby at_122) rfl rfl (l' := #[.val (.int p0), .val (.int (7 : Int32)), .val (.ref (A 6)), .unset, .unset]) rfl k) ?_
    refine own_go (B := T29.setTop (mkF m 126 #[.val (.int p0), .val (.int (7 : Int32)), .val (.ref (A 6)), .unset, .unset] [(.int (130 : Int32))])) (fun _ k => XT.sipushV X29.here hx rfl (130 : Int32) (hb hby at_123) (by decide) k) ?_
    refine own_go (B := T29.setTop (mkF m 127 #[.val (.int p0), .val (.int (7 : Int32)), .val (.ref (A 6)), .val (.int (130 : Int32)), .unset] [])) (fun _ k => XS.istoreN X29.here hx rfl (hb hby at_126) rfl (l' := #[.val (.int p0), .val (.int (7 : Int32)), .val (.ref (A 6)), .val (.int (130 : Int32)), .unset]) rfl k) ?_
    refine own_go (B := T29.setTop (mkF m 240 #[.val (.int p0), .val (.int (7 : Int32)), .val (.ref (A 6)), .val (.int (130 : Int32)), .unset] [])) (fun _ k => XS.goto X29.here hx rfl (pc0 := 127) (pc' := 240) rfl (hb hby at_127) (by decide) (by decide) k) ?_
    refine own_go (B := T29.setTop (mkF m 241 #[.val (.int p0), .val (.int (7 : Int32)), .val (.ref (A 6)), .val (.int (130 : Int32)), .unset] [(.ref (A 6))])) (fun _ k => XS.aloadN X29.here hx rfl (hb hby at_240) rfl rfl k) ?_
    obtain ⟨cq30, kq30, q30a, q30b, q30c⟩ := isOf hZ e29 (E_SUBSCRIBE.ext x0)
    obtain ⟨_, _, ⟨T30, L30, k30, n30⟩, -, X30, ⟨Lc30, hQ30, l30, y30, z30⟩, st30⟩ := X29.virtualBack hx (y := (⟨"com/example/ferrybus/ferrybus/codec/PacketType", "firstByte", "()I"⟩ : MethodName)) (z := (⟨"com/example/ferrybus/ferrybus/codec/PacketType", "firstByte", "()I"⟩ : MethodName)) hown (mvT hZ (hw _ (List.mem_of_getElem? (i := 4) rfl))) (mvT hZ (hw _ (List.mem_of_getElem? (i := 5) rfl))) (notFace_of_selects (args := #[]) (mvT hZ (hw _ (List.mem_of_getElem? (i := 7) rfl)))) (mvT hZ (hw _ (List.mem_of_getElem? (i := 7) rfl))) (mvT hZ (hw _ (List.mem_of_getElem? (i := 6) rfl))) (by decide) (own_back (W := 0) (rm1_7 l Z a0 hw []  A hW h0 x0 ) hZ (hw _ (List.mem_of_getElem? (i := 8) rfl)) (hw _ (List.mem_of_getElem? (i := 2) rfl)) (by decide) (by decide)) q30a q30c (g := (mkF m 241 #[.val (.int p0), .val (.int (7 : Int32)), .val (.ref (A 6)), .val (.int (130 : Int32)), .unset] [(.ref (A 6))])) rfl (by rw [hml]; rfl) (Steps.refl _) (argsL := []) (rest := []) (lenOf pd_0 rfl) rfl (by show 2 * 0 + _ ≤ _; exact Nat.le_of_eq rfl) (hb hby at_241) (fun _ _ => ⟨rfl, e29, (by decide : 0 + 0 ≤ _), (by decide : 0 + 0 ≤ _)⟩)
    dsimp only [Pt.U, Pt.locs, Pt.cells, Pt.slots] at X30 l30 y30 z30 st30 hQ30
    subst l30 y30 z30
    obtain ⟨rfl, N30q, e30⟩ := hQ30
    have N30 := Fr.app N0 N30q
    refine own_go (B := T30.setTop (mkF m 244 #[.val (.int p0), .val (.int (7 : Int32)), .val (.ref (A 6)), .val (.int (130 : Int32)), .unset] [(.int (130 : Int32))])) (fun _ k => st30.trans k) ?_
    refine own_go (B := T30.setTop (mkF m 246 #[.val (.int p0), .val (.int (7 : Int32)), .val (.ref (A 6)), .val (.int (130 : Int32)), .val (.int (130 : Int32))] [])) (fun _ k => XS.istore X30.here hx rfl (hb hby at_244) rfl (l' := #[.val (.int p0), .val (.int (7 : Int32)), .val (.ref (A 6)), .val (.int (130 : Int32)), .val (.int (130 : Int32))]) rfl k) ?_
    refine own_go (B := T30.setTop (mkF m 248 #[.val (.int p0), .val (.int (7 : Int32)), .val (.ref (A 6)), .val (.int (130 : Int32)), .val (.int (130 : Int32))] [(.int (130 : Int32))])) (fun _ k => XS.iload X30.here hx rfl (hb hby at_246) rfl k) ?_
    refine own_go (B := T30.setTop (mkF m 249 #[.val (.int p0), .val (.int (7 : Int32)), .val (.ref (A 6)), .val (.int (130 : Int32)), .val (.int (130 : Int32))] [(.int (130 : Int32)), (.int (130 : Int32))])) (fun _ k => XS.iloadN X30.here hx rfl (hb hby at_248) rfl k) ?_
    refine own_go (B := T30.setTop (mkF m 254 #[.val (.int p0), .val (.int (7 : Int32)), .val (.ref (A 6)), .val (.int (130 : Int32)), .val (.int (130 : Int32))] [])) (fun _ k => XS.icmpYes X30.here hx rfl (pc0 := 249) (pc' := 254) rfl (hb hby at_249) rfl (by decide) (by decide) (by decide) k) ?_
    refine own_go (B := T30.setTop (mkF m 256 #[.val (.int p0), .val (.int (7 : Int32)), .val (.ref (A 6)), .val (.int (130 : Int32)), .val (.int (130 : Int32))] [(.int (130 : Int32))])) (fun _ k => XS.iload X30.here hx rfl (hb hby at_254) rfl k) ?_
    obtain ⟨_, _, ⟨T31, L31, k31, n31⟩, -, X31, ⟨Lc31, hQ31, l31, y31, z31⟩, st31⟩ := Jvm.LawKit.callS X30 hx (y := (⟨"com/example/ferrybus/ferrybus/codec/PacketType", "of", "(I)Lcom/example/ferrybus/ferrybus/codec/PacketType;"⟩ : MethodName)) hown (mvT hZ (hw _ (List.mem_of_getElem? (i := 13) rfl))) (mvT hZ (hw _ (List.mem_of_getElem? (i := 14) rfl))) (mvT hZ (hw _ (List.mem_of_getElem? (i := 2) rfl))) (mvT hZ (hw _ (List.mem_of_getElem? (i := 15) rfl))) (by decide) (own_back (W := 0) (rm2_7 l Z a0 hw []  A hW h0 x0 ) hZ (hw _ (List.mem_of_getElem? (i := 15) rfl)) (hw _ (List.mem_of_getElem? (i := 2) rfl)) (by decide) (by decide)) (g := (mkF m 256 #[.val (.int p0), .val (.int (7 : Int32)), .val (.ref (A 6)), .val (.int (130 : Int32)), .val (.int (130 : Int32))] [(.int (130 : Int32))])) rfl (by rw [hml]; rfl) (argsL := [(.int (130 : Int32))]) (rest := []) (lenOf pd_1 rfl) rfl (by show 2 * 0 + _ ≤ _; exact Nat.le_of_eq rfl) (hb hby at_256) (fun _ _ => ⟨rfl, e30, (by decide : 0 + 0 ≤ _), (by decide : 0 + 0 ≤ _)⟩)
    dsimp only [Pt.U, Pt.locs, Pt.cells, Pt.slots] at X31 l31 y31 z31 st31 hQ31
    subst l31 y31 z31
    obtain ⟨rfl, N31q, e31⟩ := hQ31
    have N31 := Fr.app N30 N31q
    refine own_go (B := T31.setTop (mkF m 259 #[.val (.int p0), .val (.int (7 : Int32)), .val (.ref (A 6)), .val (.int (130 : Int32)), .val (.int (130 : Int32))] [(.ref (A 6))])) st31 ?_
    refine own_go (B := T31.setTop (mkF m 260 #[.val (.int p0), .val (.int (7 : Int32)), .val (.ref (A 6)), .val (.int (130 : Int32)), .val (.int (130 : Int32))] [(.ref (A 6)), (.ref (A 6))])) (fun _ k => XS.aloadN X31.here hx rfl (hb hby at_259) rfl rfl k) ?_
    refine own_go (B := T31.setTop (mkF m 263 #[.val (.int p0), .val (.int (7 : Int32)), .val (.ref (A 6)), .val (.int (130 : Int32)), .val (.int (130 : Int32))] [])) (fun _ k => Jvm.RoadKit.acmp (g := (mkF m 260 #[.val (.int p0), .val (.int (7 : Int32)), .val (.ref (A 6)), .val (.int (130 : Int32)), .val (.int (130 : Int32))] [(.ref (A 6)), (.ref (A 6))])) X31 hx rfl rfl rfl (pc0 := 260) (pc' := 263) (same := true) rfl (hb hby at_260) rfl (decide_eq_true rfl) (by decide) (by decide) k) ?_
    refine own_go (B := T31.setTop (mkF m 264 #[.val (.int p0), .val (.int (7 : Int32)), .val (.ref (A 6)), .val (.int (130 : Int32)), .val (.int (130 : Int32))] [(.ref (A 6))])) (fun _ k => XS.aloadN X31.here hx rfl (hb hby at_263) rfl rfl k) ?_
    refine own_go (B := T31.setTop (mkF m 266 #[.val (.int p0), .val (.int (7 : Int32)), .val (.ref (A 6)), .val (.int (130 : Int32)), .val (.int (130 : Int32))] [(.int (130 : Int32)), (.ref (A 6))])) (fun _ k => XS.iload X31.here hx rfl (hb hby at_264) rfl k) ?_
    refine own_go (B := T31.setTop (mkF m 268 #[.val (.int p0), .val (.int (7 : Int32)), .val (.ref (A 6)), .val (.int (130 : Int32)), .val (.int (130 : Int32))] [(.int (15 : Int32)), (.int (130 : Int32)), (.ref (A 6))])) (fun _ k => XT.bipushV X31.here hx rfl (15 : Int32) (hb hby at_266) (by decide) k) ?_
    refine own_go (B := T31.setTop (mkF m 269 #[.val (.int p0), .val (.int (7 : Int32)), .val (.ref (A 6)), .val (.int (130 : Int32)), .val (.int (130 : Int32))] [(.int ((130 : Int32) &&& (15 : Int32))), (.ref (A 6))])) (fun _ k => XS.iand X31.here hx rfl (hb hby at_268) rfl k) ?_
    obtain ⟨cq32, kq32, q32a, q32b, q32c⟩ := isOf hZ e31 (E_SUBSCRIBE.ext x0)
    obtain ⟨_, _, ⟨T32, L32, k32, n32⟩, -, X32, ⟨Lc32, hQ32, l32, y32, z32⟩, st32⟩ := X31.virtualBack hx (y := (⟨"com/example/ferrybus/ferrybus/codec/PacketType", "allows", "(I)Z"⟩ : MethodName)) (z := (⟨"com/example/ferrybus/ferrybus/codec/PacketType", "allows", "(I)Z"⟩ : MethodName)) hown (mvT hZ (hw _ (List.mem_of_getElem? (i := 18) rfl))) (mvT hZ (hw _ (List.mem_of_getElem? (i := 19) rfl))) (notFace_of_selects (args := #[]) (mvT hZ (hw _ (List.mem_of_getElem? (i := 21) rfl)))) (mvT hZ (hw _ (List.mem_of_getElem? (i := 21) rfl))) (mvT hZ (hw _ (List.mem_of_getElem? (i := 20) rfl))) (by decide) (own_back (W := 0) (rm3_7 l Z a0 hw []  A hW h0 x0 ) hZ (hw _ (List.mem_of_getElem? (i := 22) rfl)) (hw _ (List.mem_of_getElem? (i := 2) rfl)) (by decide) (by decide)) q32a q32c (g := (mkF m 269 #[.val (.int p0), .val (.int (7 : Int32)), .val (.ref (A 6)), .val (.int (130 : Int32)), .val (.int (130 : Int32))] [(.int ((130 : Int32) &&& (15 : Int32))), (.ref (A 6))])) rfl (by rw [hml]; rfl) (Steps.refl _) (argsL := [(.int ((130 : Int32) &&& (15 : Int32)))]) (rest := []) (lenOf pd_2 rfl) rfl (by show 2 * 0 + _ ≤ _; exact Nat.le_of_eq rfl) (hb hby at_269) (fun _ _ => ⟨rfl, e31, (by decide : 0 + 0 ≤ _), (by decide : 0 + 0 ≤ _)⟩)
    dsimp only [Pt.U, Pt.locs, Pt.cells, Pt.slots] at X32 l32 y32 z32 st32 hQ32
    subst l32 y32 z32
    obtain ⟨rfl, N32q, e32⟩ := hQ32
    have N32 := Fr.app N31 N32q
    refine own_go (B := T32.setTop (mkF m 272 #[.val (.int p0), .val (.int (7 : Int32)), .val (.ref (A 6)), .val (.int (130 : Int32)), .val (.int (130 : Int32))] [(.int (1 : Int32))])) (fun _ k => st32.trans k) ?_
    refine own_go (B := T32.setTop (mkF m 275 #[.val (.int p0), .val (.int (7 : Int32)), .val (.ref (A 6)), .val (.int (130 : Int32)), .val (.int (130 : Int32))] [])) (fun _ k => XS.ifNo X32.here hx rfl (hb hby at_272) rfl (by decide) k) ?_
    refine own_go (B := T32.setTop (mkF m 276 #[.val (.int p0), .val (.int (7 : Int32)), .val (.ref (A 6)), .val (.int (130 : Int32)), .val (.int (130 : Int32))] [(.int (1 : Int32))])) (fun _ k => XT.iconstV X32.here hx rfl (1 : Int32) (hb hby at_275) rfl k) ?_
    refine own_go (B := T32.setTop (mkF m 280 #[.val (.int p0), .val (.int (7 : Int32)), .val (.ref (A 6)), .val (.int (130 : Int32)), .val (.int (130 : Int32))] [(.int (1 : Int32))])) (fun _ k => XS.goto X32.here hx rfl (pc0 := 276) (pc' := 280) rfl (hb hby at_276) (by decide) (by decide) k) ?_
    exact own_ret X32 hx (t := .boolean) hrt rfl (Or.inl ⟨rfl, by simp, _, rfl⟩) (hb hby at_280) hlk ⟨rfl, N32⟩ (by decide) (by decide)
  · refine own_go (B := s₁.setTop (mkF m 9 #[.val (.int p0), .val (.int (8 : Int32)), .unset, .unset, .unset] [(.int (8 : Int32))])) (fun _ k => XS.iloadN X0.here hx rfl (hb hby at_8) rfl k) ?_
    refine own_go (B := s₁.setTop (mkF m 22 #[.val (.int p0), .val (.int (8 : Int32)), .unset, .unset, .unset] [])) (fun _ k => XS.ifYes X0.here hx rfl (pc0 := 9) (pc' := 22) rfl (hb hby at_9) rfl (by decide) (by decide) (by decide) k) ?_
    refine own_go (B := s₁.setTop (mkF m 23 #[.val (.int p0), .val (.int (8 : Int32)), .unset, .unset, .unset] [(.int (8 : Int32))])) (fun _ k => XS.iloadN X0.here hx rfl (hb hby at_22) rfl k) ?_
    refine own_go (B := s₁.setTop (mkF m 24 #[.val (.int p0), .val (.int (8 : Int32)), .unset, .unset, .unset] [(.int (1 : Int32)), (.int (8 : Int32))])) (fun _ k => XT.iconstV X0.here hx rfl (1 : Int32) (hb hby at_23) rfl k) ?_
    refine own_go (B := s₁.setTop (mkF m 37 #[.val (.int p0), .val (.int (8 : Int32)), .unset, .unset, .unset] [])) (fun _ k => XS.icmpYes X0.here hx rfl (pc0 := 24) (pc' := 37) rfl (hb hby at_24) rfl (by decide) (by decide) (by decide) k) ?_
    refine own_go (B := s₁.setTop (mkF m 38 #[.val (.int p0), .val (.int (8 : Int32)), .unset, .unset, .unset] [(.int (8 : Int32))])) (fun _ k => XS.iloadN X0.here hx rfl (hb hby at_37) rfl k) ?_
    refine own_go (B := s₁.setTop (mkF m 39 #[.val (.int p0), .val (.int (8 : Int32)), .unset, .unset, .unset] [(.int (2 : Int32)), (.int (8 : Int32))])) (fun _ k => XT.iconstV X0.here hx rfl (2 : Int32) (hb hby at_38) rfl k) ?_
    refine own_go (B := s₁.setTop (mkF m 52 #[.val (.int p0), .val (.int (8 : Int32)), .unset, .unset, .unset] [])) (fun _ k => XS.icmpYes X0.here hx rfl (pc0 := 39) (pc' := 52) rfl (hb hby at_39) rfl (by decide) (by decide) (by decide) k) ?_
    refine own_go (B := s₁.setTop (mkF m 53 #[.val (.int p0), .val (.int (8 : Int32)), .unset, .unset, .unset] [(.int (8 : Int32))])) (fun _ k => XS.iloadN X0.here hx rfl (hb hby at_52) rfl k) ?_
    refine own_go (B := s₁.setTop (mkF m 54 #[.val (.int p0), .val (.int (8 : Int32)), .unset, .unset, .unset] [(.int (3 : Int32)), (.int (8 : Int32))])) (fun _ k => XT.iconstV X0.here hx rfl (3 : Int32) (hb hby at_53) rfl k) ?_
    refine own_go (B := s₁.setTop (mkF m 67 #[.val (.int p0), .val (.int (8 : Int32)), .unset, .unset, .unset] [])) (fun _ k => XS.icmpYes X0.here hx rfl (pc0 := 54) (pc' := 67) rfl (hb hby at_54) rfl (by decide) (by decide) (by decide) k) ?_
    refine own_go (B := s₁.setTop (mkF m 68 #[.val (.int p0), .val (.int (8 : Int32)), .unset, .unset, .unset] [(.int (8 : Int32))])) (fun _ k => XS.iloadN X0.here hx rfl (hb hby at_67) rfl k) ?_
    refine own_go (B := s₁.setTop (mkF m 69 #[.val (.int p0), .val (.int (8 : Int32)), .unset, .unset, .unset] [(.int (4 : Int32)), (.int (8 : Int32))])) (fun _ k => XT.iconstV X0.here hx rfl (4 : Int32) (hb hby at_68) rfl k) ?_
    refine own_go (B := s₁.setTop (mkF m 82 #[.val (.int p0), .val (.int (8 : Int32)), .unset, .unset, .unset] [])) (fun _ k => XS.icmpYes X0.here hx rfl (pc0 := 69) (pc' := 82) rfl (hb hby at_69) rfl (by decide) (by decide) (by decide) k) ?_
    refine own_go (B := s₁.setTop (mkF m 83 #[.val (.int p0), .val (.int (8 : Int32)), .unset, .unset, .unset] [(.int (8 : Int32))])) (fun _ k => XS.iloadN X0.here hx rfl (hb hby at_82) rfl k) ?_
    refine own_go (B := s₁.setTop (mkF m 84 #[.val (.int p0), .val (.int (8 : Int32)), .unset, .unset, .unset] [(.int (5 : Int32)), (.int (8 : Int32))])) (fun _ k => XT.iconstV X0.here hx rfl (5 : Int32) (hb hby at_83) rfl k) ?_
    refine own_go (B := s₁.setTop (mkF m 97 #[.val (.int p0), .val (.int (8 : Int32)), .unset, .unset, .unset] [])) (fun _ k => XS.icmpYes X0.here hx rfl (pc0 := 84) (pc' := 97) rfl (hb hby at_84) rfl (by decide) (by decide) (by decide) k) ?_
    refine own_go (B := s₁.setTop (mkF m 98 #[.val (.int p0), .val (.int (8 : Int32)), .unset, .unset, .unset] [(.int (8 : Int32))])) (fun _ k => XS.iloadN X0.here hx rfl (hb hby at_97) rfl k) ?_
    refine own_go (B := s₁.setTop (mkF m 100 #[.val (.int p0), .val (.int (8 : Int32)), .unset, .unset, .unset] [(.int (6 : Int32)), (.int (8 : Int32))])) (fun _ k => XT.bipushV X0.here hx rfl (6 : Int32) (hb hby at_98) (by decide) k) ?_
    refine own_go (B := s₁.setTop (mkF m 113 #[.val (.int p0), .val (.int (8 : Int32)), .unset, .unset, .unset] [])) (fun _ k => XS.icmpYes X0.here hx rfl (pc0 := 100) (pc' := 113) rfl (hb hby at_100) rfl (by decide) (by decide) (by decide) k) ?_
    refine own_go (B := s₁.setTop (mkF m 114 #[.val (.int p0), .val (.int (8 : Int32)), .unset, .unset, .unset] [(.int (8 : Int32))])) (fun _ k => XS.iloadN X0.here hx rfl (hb hby at_113) rfl k) ?_
    refine own_go (B := s₁.setTop (mkF m 116 #[.val (.int p0), .val (.int (8 : Int32)), .unset, .unset, .unset] [(.int (7 : Int32)), (.int (8 : Int32))])) (fun _ k => XT.bipushV X0.here hx rfl (7 : Int32) (hb hby at_114) (by decide) k) ?_
    refine own_go (B := s₁.setTop (mkF m 130 #[.val (.int p0), .val (.int (8 : Int32)), .unset, .unset, .unset] [])) (fun _ k => XS.icmpYes X0.here hx rfl (pc0 := 116) (pc' := 130) rfl (hb hby at_116) rfl (by decide) (by decide) (by decide) k) ?_
    refine own_go (B := s₁.setTop (mkF m 131 #[.val (.int p0), .val (.int (8 : Int32)), .unset, .unset, .unset] [(.int (8 : Int32))])) (fun _ k => XS.iloadN X0.here hx rfl (hb hby at_130) rfl k) ?_
    refine own_go (B := s₁.setTop (mkF m 133 #[.val (.int p0), .val (.int (8 : Int32)), .unset, .unset, .unset] [(.int (8 : Int32)), (.int (8 : Int32))])) (fun _ k => XT.bipushV X0.here hx rfl (8 : Int32) (hb hby at_131) (by decide) k) ?_
    refine own_go (B := s₁.setTop (mkF m 136 #[.val (.int p0), .val (.int (8 : Int32)), .unset, .unset, .unset] [])) (fun _ k => XS.icmpNo X0.here hx rfl (hb hby at_133) rfl (by decide) k) ?_
    obtain ⟨T33, X33, e33, st33⟩ := getS2 X0 hx hZ hown (host := "") (Or.inl (hw _ (List.mem_of_getElem? (i := 41) rfl))) Via.refl e0 (S_SUBACK.ext x0) (g := (mkF m 136 #[.val (.int p0), .val (.int (8 : Int32)), .unset, .unset, .unset] [])) rfl (hb hby at_136)
    refine own_go (B := T33.setTop (mkF m 139 #[.val (.int p0), .val (.int (8 : Int32)), .unset, .unset, .unset] [(.ref (A 10))])) st33 ?_
    refine own_go (B := T33.setTop (mkF m 140 #[.val (.int p0), .val (.int (8 : Int32)), .val (.ref (A 10)), .unset, .unset] [])) (fun _ k => XS.astoreN X33.here hx rfl (hb hby at_139) rfl rfl (l' := #[.val (.int p0), .val (.int (8 : Int32)), .val (.ref (A 10)), .unset, .unset]) rfl k) ?_
    refine own_go (B := T33.setTop (mkF m 143 #[.val (.int p0), .val (.int (8 : Int32)), .val (.ref (A 10)), .unset, .unset] [(.int (144 : Int32))])) (fun _ k => XT.sipushV X33.here hx rfl (144 : Int32) (hb hby at_140) (by decide) k) ?_
    refine own_go (B := T33.setTop (mkF m 144 #[.val (.int p0), .val (.int (8 : Int32)), .val (.ref (A 10)), .val (.int (144 : Int32)), .unset] [])) (fun _ k => XS.istoreN X33.here hx rfl (hb hby at_143) rfl (l' := #[.val (.int p0), .val (.int (8 : Int32)), .val (.ref (A 10)), .val (.int (144 : Int32)), .unset]) rfl k) ?_
    refine own_go (B := T33.setTop (mkF m 240 #[.val (.int p0), .val (.int (8 : Int32)), .val (.ref (A 10)), .val (.int (144 : Int32)), .unset] [])) (fun _ k => XS.goto X33.here hx rfl (pc0 := 144) (pc' := 240) rfl (hb hby at_144) (by decide) (by decide) k) ?_
    refine own_go (B := T33.setTop (mkF m 241 #[.val (.int p0), .val (.int (8 : Int32)), .val (.ref (A 10)), .val (.int (144 : Int32)), .unset] [(.ref (A 10))])) (fun _ k => XS.aloadN X33.here hx rfl (hb hby at_240) rfl rfl k) ?_
    obtain ⟨cq34, kq34, q34a, q34b, q34c⟩ := isOf hZ e33 (E_SUBACK.ext x0)
    obtain ⟨_, _, ⟨T34, L34, k34, n34⟩, -, X34, ⟨Lc34, hQ34, l34, y34, z34⟩, st34⟩ := X33.virtualBack hx (y := (⟨"com/example/ferrybus/ferrybus/codec/PacketType", "firstByte", "()I"⟩ : MethodName)) (z := (⟨"com/example/ferrybus/ferrybus/codec/PacketType", "firstByte", "()I"⟩ : MethodName)) hown (mvT hZ (hw _ (List.mem_of_getElem? (i := 4) rfl))) (mvT hZ (hw _ (List.mem_of_getElem? (i := 5) rfl))) (notFace_of_selects (args := #[]) (mvT hZ (hw _ (List.mem_of_getElem? (i := 7) rfl)))) (mvT hZ (hw _ (List.mem_of_getElem? (i := 7) rfl))) (mvT hZ (hw _ (List.mem_of_getElem? (i := 6) rfl))) (by decide) (own_back (W := 0) (rm1_8 l Z a0 hw []  A hW h0 x0 ) hZ (hw _ (List.mem_of_getElem? (i := 8) rfl)) (hw _ (List.mem_of_getElem? (i := 2) rfl)) (by decide) (by decide)) q34a q34c (g := (mkF m 241 #[.val (.int p0), .val (.int (8 : Int32)), .val (.ref (A 10)), .val (.int (144 : Int32)), .unset] [(.ref (A 10))])) rfl (by rw [hml]; rfl) (Steps.refl _) (argsL := []) (rest := []) (lenOf pd_0 rfl) rfl (by show 2 * 0 + _ ≤ _; exact Nat.le_of_eq rfl) (hb hby at_241) (fun _ _ => ⟨rfl, e33, (by decide : 0 + 0 ≤ _), (by decide : 0 + 0 ≤ _)⟩)
    dsimp only [Pt.U, Pt.locs, Pt.cells, Pt.slots] at X34 l34 y34 z34 st34 hQ34
    subst l34 y34 z34
    obtain ⟨rfl, N34q, e34⟩ := hQ34
    have N34 := Fr.app N0 N34q
    refine own_go (B := T34.setTop (mkF m 244 #[.val (.int p0), .val (.int (8 : Int32)), .val (.ref (A 10)), .val (.int (144 : Int32)), .unset] [(.int (144 : Int32))])) (fun _ k => st34.trans k) ?_
    refine own_go (B := T34.setTop (mkF m 246 #[.val (.int p0), .val (.int (8 : Int32)), .val (.ref (A 10)), .val (.int (144 : Int32)), .val (.int (144 : Int32))] [])) (fun _ k => XS.istore X34.here hx rfl (hb hby at_244) rfl (l' := #[.val (.int p0), .val (.int (8 : Int32)), .val (.ref (A 10)), .val (.int (144 : Int32)), .val (.int (144 : Int32))]) rfl k) ?_
    refine own_go (B := T34.setTop (mkF m 248 #[.val (.int p0), .val (.int (8 : Int32)), .val (.ref (A 10)), .val (.int (144 : Int32)), .val (.int (144 : Int32))] [(.int (144 : Int32))])) (fun _ k => XS.iload X34.here hx rfl (hb hby at_246) rfl k) ?_
    refine own_go (B := T34.setTop (mkF m 249 #[.val (.int p0), .val (.int (8 : Int32)), .val (.ref (A 10)), .val (.int (144 : Int32)), .val (.int (144 : Int32))] [(.int (144 : Int32)), (.int (144 : Int32))])) (fun _ k => XS.iloadN X34.here hx rfl (hb hby at_248) rfl k) ?_
    refine own_go (B := T34.setTop (mkF m 254 #[.val (.int p0), .val (.int (8 : Int32)), .val (.ref (A 10)), .val (.int (144 : Int32)), .val (.int (144 : Int32))] [])) (fun _ k => XS.icmpYes X34.here hx rfl (pc0 := 249) (pc' := 254) rfl (hb hby at_249) rfl (by decide) (by decide) (by decide) k) ?_
    refine own_go (B := T34.setTop (mkF m 256 #[.val (.int p0), .val (.int (8 : Int32)), .val (.ref (A 10)), .val (.int (144 : Int32)), .val (.int (144 : Int32))] [(.int (144 : Int32))])) (fun _ k => XS.iload X34.here hx rfl (hb hby at_254) rfl k) ?_
    obtain ⟨_, _, ⟨T35, L35, k35, n35⟩, -, X35, ⟨Lc35, hQ35, l35, y35, z35⟩, st35⟩ := Jvm.LawKit.callS X34 hx (y := (⟨"com/example/ferrybus/ferrybus/codec/PacketType", "of", "(I)Lcom/example/ferrybus/ferrybus/codec/PacketType;"⟩ : MethodName)) hown (mvT hZ (hw _ (List.mem_of_getElem? (i := 13) rfl))) (mvT hZ (hw _ (List.mem_of_getElem? (i := 14) rfl))) (mvT hZ (hw _ (List.mem_of_getElem? (i := 2) rfl))) (mvT hZ (hw _ (List.mem_of_getElem? (i := 15) rfl))) (by decide) (own_back (W := 0) (rm2_8 l Z a0 hw []  A hW h0 x0 ) hZ (hw _ (List.mem_of_getElem? (i := 15) rfl)) (hw _ (List.mem_of_getElem? (i := 2) rfl)) (by decide) (by decide)) (g := (mkF m 256 #[.val (.int p0), .val (.int (8 : Int32)), .val (.ref (A 10)), .val (.int (144 : Int32)), .val (.int (144 : Int32))] [(.int (144 : Int32))])) rfl (by rw [hml]; rfl) (argsL := [(.int (144 : Int32))]) (rest := []) (lenOf pd_1 rfl) rfl (by show 2 * 0 + _ ≤ _; exact Nat.le_of_eq rfl) (hb hby at_256) (fun _ _ => ⟨rfl, e34, (by decide : 0 + 0 ≤ _), (by decide : 0 + 0 ≤ _)⟩)
    dsimp only [Pt.U, Pt.locs, Pt.cells, Pt.slots] at X35 l35 y35 z35 st35 hQ35
    subst l35 y35 z35
    obtain ⟨rfl, N35q, e35⟩ := hQ35
    have N35 := Fr.app N34 N35q
    refine own_go (B := T35.setTop (mkF m 259 #[.val (.int p0), .val (.int (8 : Int32)), .val (.ref (A 10)), .val (.int (144 : Int32)), .val (.int (144 : Int32))] [(.ref (A 10))])) st35 ?_
    refine own_go (B := T35.setTop (mkF m 260 #[.val (.int p0), .val (.int (8 : Int32)), .val (.ref (A 10)), .val (.int (144 : Int32)), .val (.int (144 : Int32))] [(.ref (A 10)), (.ref (A 10))])) (fun _ k => XS.aloadN X35.here hx rfl (hb hby at_259) rfl rfl k) ?_
    refine own_go (B := T35.setTop (mkF m 263 #[.val (.int p0), .val (.int (8 : Int32)), .val (.ref (A 10)), .val (.int (144 : Int32)), .val (.int (144 : Int32))] [])) (fun _ k => Jvm.RoadKit.acmp (g := (mkF m 260 #[.val (.int p0), .val (.int (8 : Int32)), .val (.ref (A 10)), .val (.int (144 : Int32)), .val (.int (144 : Int32))] [(.ref (A 10)), (.ref (A 10))])) X35 hx rfl rfl rfl (pc0 := 260) (pc' := 263) (same := true) rfl (hb hby at_260) rfl (decide_eq_true rfl) (by decide) (by decide) k) ?_
    refine own_go (B := T35.setTop (mkF m 264 #[.val (.int p0), .val (.int (8 : Int32)), .val (.ref (A 10)), .val (.int (144 : Int32)), .val (.int (144 : Int32))] [(.ref (A 10))])) (fun _ k => XS.aloadN X35.here hx rfl (hb hby at_263) rfl rfl k) ?_
    refine own_go (B := T35.setTop (mkF m 266 #[.val (.int p0), .val (.int (8 : Int32)), .val (.ref (A 10)), .val (.int (144 : Int32)), .val (.int (144 : Int32))] [(.int (144 : Int32)), (.ref (A 10))])) (fun _ k => XS.iload X35.here hx rfl (hb hby at_264) rfl k) ?_
    refine own_go (B := T35.setTop (mkF m 268 #[.val (.int p0), .val (.int (8 : Int32)), .val (.ref (A 10)), .val (.int (144 : Int32)), .val (.int (144 : Int32))] [(.int (15 : Int32)), (.int (144 : Int32)), (.ref (A 10))])) (fun _ k => XT.bipushV X35.here hx rfl (15 : Int32) (hb hby at_266) (by decide) k) ?_
    refine own_go (B := T35.setTop (mkF m 269 #[.val (.int p0), .val (.int (8 : Int32)), .val (.ref (A 10)), .val (.int (144 : Int32)), .val (.int (144 : Int32))] [(.int ((144 : Int32) &&& (15 : Int32))), (.ref (A 10))])) (fun _ k => XS.iand X35.here hx rfl (hb hby at_268) rfl k) ?_
    obtain ⟨cq36, kq36, q36a, q36b, q36c⟩ := isOf hZ e35 (E_SUBACK.ext x0)
    obtain ⟨_, _, ⟨T36, L36, k36, n36⟩, -, X36, ⟨Lc36, hQ36, l36, y36, z36⟩, st36⟩ := X35.virtualBack hx (y := (⟨"com/example/ferrybus/ferrybus/codec/PacketType", "allows", "(I)Z"⟩ : MethodName)) (z := (⟨"com/example/ferrybus/ferrybus/codec/PacketType", "allows", "(I)Z"⟩ : MethodName)) hown (mvT hZ (hw _ (List.mem_of_getElem? (i := 18) rfl))) (mvT hZ (hw _ (List.mem_of_getElem? (i := 19) rfl))) (notFace_of_selects (args := #[]) (mvT hZ (hw _ (List.mem_of_getElem? (i := 21) rfl)))) (mvT hZ (hw _ (List.mem_of_getElem? (i := 21) rfl))) (mvT hZ (hw _ (List.mem_of_getElem? (i := 20) rfl))) (by decide) (own_back (W := 0) (rm3_8 l Z a0 hw []  A hW h0 x0 ) hZ (hw _ (List.mem_of_getElem? (i := 22) rfl)) (hw _ (List.mem_of_getElem? (i := 2) rfl)) (by decide) (by decide)) q36a q36c (g := (mkF m 269 #[.val (.int p0), .val (.int (8 : Int32)), .val (.ref (A 10)), .val (.int (144 : Int32)), .val (.int (144 : Int32))] [(.int ((144 : Int32) &&& (15 : Int32))), (.ref (A 10))])) rfl (by rw [hml]; rfl) (Steps.refl _) (argsL := [(.int ((144 : Int32) &&& (15 : Int32)))]) (rest := []) (lenOf pd_2 rfl) rfl (by show 2 * 0 + _ ≤ _; exact Nat.le_of_eq rfl) (hb hby at_269) (fun _ _ => ⟨rfl, e35, (by decide : 0 + 0 ≤ _), (by decide : 0 + 0 ≤ _)⟩)
    dsimp only [Pt.U, Pt.locs, Pt.cells, Pt.slots] at X36 l36 y36 z36 st36 hQ36
    subst l36 y36 z36
    obtain ⟨rfl, N36q, e36⟩ := hQ36
    have N36 := Fr.app N35 N36q
    refine own_go (B := T36.setTop (mkF m 272 #[.val (.int p0), .val (.int (8 : Int32)), .val (.ref (A 10)), .val (.int (144 : Int32)), .val (.int (144 : Int32))] [(.int (1 : Int32))])) (fun _ k => st36.trans k) ?_
    refine own_go (B := T36.setTop (mkF m 275 #[.val (.int p0), .val (.int (8 : Int32)), .val (.ref (A 10)), .val (.int (144 : Int32)), .val (.int (144 : Int32))] [])) (fun _ k => XS.ifNo X36.here hx rfl (hb hby at_272) rfl (by decide) k) ?_
    refine own_go (B := T36.setTop (mkF m 276 #[.val (.int p0), .val (.int (8 : Int32)), .val (.ref (A 10)), .val (.int (144 : Int32)), .val (.int (144 : Int32))] [(.int (1 : Int32))])) (fun _ k => XT.iconstV X36.here hx rfl (1 : Int32) (hb hby at_275) rfl k) ?_
    refine own_go (B := T36.setTop (mkF m 280 #[.val (.int p0), .val (.int (8 : Int32)), .val (.ref (A 10)), .val (.int (144 : Int32)), .val (.int (144 : Int32))] [(.int (1 : Int32))])) (fun _ k => XS.goto X36.here hx rfl (pc0 := 276) (pc' := 280) rfl (hb hby at_276) (by decide) (by decide) k) ?_
    exact own_ret X36 hx (t := .boolean) hrt rfl (Or.inl ⟨rfl, by simp, _, rfl⟩) (hb hby at_280) hlk ⟨rfl, N36⟩ (by decide) (by decide)
  · refine own_go (B := s₁.setTop (mkF m 9 #[.val (.int p0), .val (.int (9 : Int32)), .unset, .unset, .unset] [(.int (9 : Int32))])) (fun _ k => XS.iloadN X0.here hx rfl (hb hby at_8) rfl k) ?_
    refine own_go (B := s₁.setTop (mkF m 22 #[.val (.int p0), .val (.int (9 : Int32)), .unset, .unset, .unset] [])) (fun _ k => XS.ifYes X0.here hx rfl (pc0 := 9) (pc' := 22) rfl (hb hby at_9) rfl (by decide) (by decide) (by decide) k) ?_
    refine own_go (B := s₁.setTop (mkF m 23 #[.val (.int p0), .val (.int (9 : Int32)), .unset, .unset, .unset] [(.int (9 : Int32))])) (fun _ k => XS.iloadN X0.here hx rfl (hb hby at_22) rfl k) ?_
    refine own_go (B := s₁.setTop (mkF m 24 #[.val (.int p0), .val (.int (9 : Int32)), .unset, .unset, .unset] [(.int (1 : Int32)), (.int (9 : Int32))])) (fun _ k => XT.iconstV X0.here hx rfl (1 : Int32) (hb hby at_23) rfl k) ?_
    refine own_go (B := s₁.setTop (mkF m 37 #[.val (.int p0), .val (.int (9 : Int32)), .unset, .unset, .unset] [])) (fun _ k => XS.icmpYes X0.here hx rfl (pc0 := 24) (pc' := 37) rfl (hb hby at_24) rfl (by decide) (by decide) (by decide) k) ?_
    refine own_go (B := s₁.setTop (mkF m 38 #[.val (.int p0), .val (.int (9 : Int32)), .unset, .unset, .unset] [(.int (9 : Int32))])) (fun _ k => XS.iloadN X0.here hx rfl (hb hby at_37) rfl k) ?_
    refine own_go (B := s₁.setTop (mkF m 39 #[.val (.int p0), .val (.int (9 : Int32)), .unset, .unset, .unset] [(.int (2 : Int32)), (.int (9 : Int32))])) (fun _ k => XT.iconstV X0.here hx rfl (2 : Int32) (hb hby at_38) rfl k) ?_
    refine own_go (B := s₁.setTop (mkF m 52 #[.val (.int p0), .val (.int (9 : Int32)), .unset, .unset, .unset] [])) (fun _ k => XS.icmpYes X0.here hx rfl (pc0 := 39) (pc' := 52) rfl (hb hby at_39) rfl (by decide) (by decide) (by decide) k) ?_
    refine own_go (B := s₁.setTop (mkF m 53 #[.val (.int p0), .val (.int (9 : Int32)), .unset, .unset, .unset] [(.int (9 : Int32))])) (fun _ k => XS.iloadN X0.here hx rfl (hb hby at_52) rfl k) ?_
    refine own_go (B := s₁.setTop (mkF m 54 #[.val (.int p0), .val (.int (9 : Int32)), .unset, .unset, .unset] [(.int (3 : Int32)), (.int (9 : Int32))])) (fun _ k => XT.iconstV X0.here hx rfl (3 : Int32) (hb hby at_53) rfl k) ?_
    refine own_go (B := s₁.setTop (mkF m 67 #[.val (.int p0), .val (.int (9 : Int32)), .unset, .unset, .unset] [])) (fun _ k => XS.icmpYes X0.here hx rfl (pc0 := 54) (pc' := 67) rfl (hb hby at_54) rfl (by decide) (by decide) (by decide) k) ?_
    refine own_go (B := s₁.setTop (mkF m 68 #[.val (.int p0), .val (.int (9 : Int32)), .unset, .unset, .unset] [(.int (9 : Int32))])) (fun _ k => XS.iloadN X0.here hx rfl (hb hby at_67) rfl k) ?_
    refine own_go (B := s₁.setTop (mkF m 69 #[.val (.int p0), .val (.int (9 : Int32)), .unset, .unset, .unset] [(.int (4 : Int32)), (.int (9 : Int32))])) (fun _ k => XT.iconstV X0.here hx rfl (4 : Int32) (hb hby at_68) rfl k) ?_
    refine own_go (B := s₁.setTop (mkF m 82 #[.val (.int p0), .val (.int (9 : Int32)), .unset, .unset, .unset] [])) (fun _ k => XS.icmpYes X0.here hx rfl (pc0 := 69) (pc' := 82) rfl (hb hby at_69) rfl (by decide) (by decide) (by decide) k) ?_
    refine own_go (B := s₁.setTop (mkF m 83 #[.val (.int p0), .val (.int (9 : Int32)), .unset, .unset, .unset] [(.int (9 : Int32))])) (fun _ k => XS.iloadN X0.here hx rfl (hb hby at_82) rfl k) ?_
    refine own_go (B := s₁.setTop (mkF m 84 #[.val (.int p0), .val (.int (9 : Int32)), .unset, .unset, .unset] [(.int (5 : Int32)), (.int (9 : Int32))])) (fun _ k => XT.iconstV X0.here hx rfl (5 : Int32) (hb hby at_83) rfl k) ?_
    refine own_go (B := s₁.setTop (mkF m 97 #[.val (.int p0), .val (.int (9 : Int32)), .unset, .unset, .unset] [])) (fun _ k => XS.icmpYes X0.here hx rfl (pc0 := 84) (pc' := 97) rfl (hb hby at_84) rfl (by decide) (by decide) (by decide) k) ?_
    refine own_go (B := s₁.setTop (mkF m 98 #[.val (.int p0), .val (.int (9 : Int32)), .unset, .unset, .unset] [(.int (9 : Int32))])) (fun _ k => XS.iloadN X0.here hx rfl (hb hby at_97) rfl k) ?_
    refine own_go (B := s₁.setTop (mkF m 100 #[.val (.int p0), .val (.int (9 : Int32)), .unset, .unset, .unset] [(.int (6 : Int32)), (.int (9 : Int32))])) (fun _ k => XT.bipushV X0.here hx rfl (6 : Int32) (hb hby at_98) (by decide) k) ?_
    refine own_go (B := s₁.setTop (mkF m 113 #[.val (.int p0), .val (.int (9 : Int32)), .unset, .unset, .unset] [])) (fun _ k => XS.icmpYes X0.here hx rfl (pc0 := 100) (pc' := 113) rfl (hb hby at_100) rfl (by decide) (by decide) (by decide) k) ?_
    refine own_go (B := s₁.setTop (mkF m 114 #[.val (.int p0), .val (.int (9 : Int32)), .unset, .unset, .unset] [(.int (9 : Int32))])) (fun _ k => XS.iloadN X0.here hx rfl (hb hby at_113) rfl k) ?_
    refine own_go (B := s₁.setTop (mkF m 116 #[.val (.int p0), .val (.int (9 : Int32)), .unset, .unset, .unset] [(.int (7 : Int32)), (.int (9 : Int32))])) (fun _ k => XT.bipushV X0.here hx rfl (7 : Int32) (hb hby at_114) (by decide) k) ?_
    refine own_go (B := s₁.setTop (mkF m 130 #[.val (.int p0), .val (.int (9 : Int32)), .unset, .unset, .unset] [])) (fun _ k => XS.icmpYes X0.here hx rfl (pc0 := 116) (pc' := 130) rfl (hb hby at_116) rfl (by decide) (by decide) (by decide) k) ?_
    refine own_go (B := s₁.setTop (mkF m 131 #[.val (.int p0), .val (.int (9 : Int32)), .unset, .unset, .unset] [(.int (9 : Int32))])) (fun _ k => XS.iloadN X0.here hx rfl (hb hby at_130) rfl k) ?_
    refine own_go (B := s₁.setTop (mkF m 133 #[.val (.int p0), .val (.int (9 : Int32)), .unset, .unset, .unset] [(.int (8 : Int32)), (.int (9 : Int32))])) (fun _ k => XT.bipushV X0.here hx rfl (8 : Int32) (hb hby at_131) (by decide) k) ?_
    refine own_go (B := s₁.setTop (mkF m 147 #[.val (.int p0), .val (.int (9 : Int32)), .unset, .unset, .unset] [])) (fun _ k => XS.icmpYes X0.here hx rfl (pc0 := 133) (pc' := 147) rfl (hb hby at_133) rfl (by decide) (by decide) (by decide) k) ?_
    refine own_go (B := s₁.setTop (mkF m 148 #[.val (.int p0), .val (.int (9 : Int32)), .unset, .unset, .unset] [(.int (9 : Int32))])) (fun _ k => XS.iloadN X0.here hx rfl (hb hby at_147) rfl k) ?_
    refine own_go (B := s₁.setTop (mkF m 150 #[.val (.int p0), .val (.int (9 : Int32)), .unset, .unset, .unset] [(.int (9 : Int32)), (.int (9 : Int32))])) (fun _ k => XT.bipushV X0.here hx rfl (9 : Int32) (hb hby at_148) (by decide) k) ?_
    refine own_go (B := s₁.setTop (mkF m 153 #[.val (.int p0), .val (.int (9 : Int32)), .unset, .unset, .unset] [])) (fun _ k => XS.icmpNo X0.here hx rfl (hb hby at_150) rfl (by decide) k) ?_
    obtain ⟨T37, X37, e37, st37⟩ := getS2 X0 hx hZ hown (host := "") (Or.inl (hw _ (List.mem_of_getElem? (i := 49) rfl))) Via.refl e0 (S_UNSUBSCRIBE.ext x0) (g := (mkF m 153 #[.val (.int p0), .val (.int (9 : Int32)), .unset, .unset, .unset] [])) rfl (hb hby at_153)
    refine own_go (B := T37.setTop (mkF m 156 #[.val (.int p0), .val (.int (9 : Int32)), .unset, .unset, .unset] [(.ref (A 14))])) st37 ?_
    refine own_go (B := T37.setTop (mkF m 157 #[.val (.int p0), .val (.int (9 : Int32)), .val (.ref (A 14)), .unset, .unset] [])) (fun _ k => XS.astoreN X37.here hx rfl (hb hby at_156) rfl rfl (l' := #[.val (.int p0), .val (.int (9 : Int32)), .val (.ref (A 14)), .unset, .unset]) rfl k) ?_
    refine own_go (B := T37.setTop (mkF m 160 #[.val (.int p0), .val (.int (9 : Int32)), .val (.ref (A 14)), .unset, .unset] [(.int (162 : Int32))])) (fun _ k => XT.sipushV X37.here hx rfl (162 : Int32) (hb hby at_157) (by decide) k) ?_
    refine own_go (B := T37.setTop (mkF m 161 #[.val (.int p0), .val (.int (9 : Int32)), .val (.ref (A 14)), .val (.int (162 : Int32)), .unset] [])) (fun _ k => XS.istoreN X37.here hx rfl (hb hby at_160) rfl (l' := #[.val (.int p0), .val (.int (9 : Int32)), .val (.ref (A 14)), .val (.int (162 : Int32)), .unset]) rfl k) ?_
    refine own_go (B := T37.setTop (mkF m 240 #[.val (.int p0), .val (.int (9 : Int32)), .val (.ref (A 14)), .val (.int (162 : Int32)), .unset] [])) (fun _ k => XS.goto X37.here hx rfl (pc0 := 161) (pc' := 240) rfl (hb hby at_161) (by decide) (by decide) k) ?_
    refine own_go (B := T37.setTop (mkF m 241 #[.val (.int p0), .val (.int (9 : Int32)), .val (.ref (A 14)), .val (.int (162 : Int32)), .unset] [(.ref (A 14))])) (fun _ k => XS.aloadN X37.here hx rfl (hb hby at_240) rfl rfl k) ?_
    obtain ⟨cq38, kq38, q38a, q38b, q38c⟩ := isOf hZ e37 (E_UNSUBSCRIBE.ext x0)
    obtain ⟨_, _, ⟨T38, L38, k38, n38⟩, -, X38, ⟨Lc38, hQ38, l38, y38, z38⟩, st38⟩ := X37.virtualBack hx (y := (⟨"com/example/ferrybus/ferrybus/codec/PacketType", "firstByte", "()I"⟩ : MethodName)) (z := (⟨"com/example/ferrybus/ferrybus/codec/PacketType", "firstByte", "()I"⟩ : MethodName)) hown (mvT hZ (hw _ (List.mem_of_getElem? (i := 4) rfl))) (mvT hZ (hw _ (List.mem_of_getElem? (i := 5) rfl))) (notFace_of_selects (args := #[]) (mvT hZ (hw _ (List.mem_of_getElem? (i := 7) rfl)))) (mvT hZ (hw _ (List.mem_of_getElem? (i := 7) rfl))) (mvT hZ (hw _ (List.mem_of_getElem? (i := 6) rfl))) (by decide) (own_back (W := 0) (rm1_9 l Z a0 hw []  A hW h0 x0 ) hZ (hw _ (List.mem_of_getElem? (i := 8) rfl)) (hw _ (List.mem_of_getElem? (i := 2) rfl)) (by decide) (by decide)) q38a q38c (g := (mkF m 241 #[.val (.int p0), .val (.int (9 : Int32)), .val (.ref (A 14)), .val (.int (162 : Int32)), .unset] [(.ref (A 14))])) rfl (by rw [hml]; rfl) (Steps.refl _) (argsL := []) (rest := []) (lenOf pd_0 rfl) rfl (by show 2 * 0 + _ ≤ _; exact Nat.le_of_eq rfl) (hb hby at_241) (fun _ _ => ⟨rfl, e37, (by decide : 0 + 0 ≤ _), (by decide : 0 + 0 ≤ _)⟩)
    dsimp only [Pt.U, Pt.locs, Pt.cells, Pt.slots] at X38 l38 y38 z38 st38 hQ38
    subst l38 y38 z38
    obtain ⟨rfl, N38q, e38⟩ := hQ38
    have N38 := Fr.app N0 N38q
    refine own_go (B := T38.setTop (mkF m 244 #[.val (.int p0), .val (.int (9 : Int32)), .val (.ref (A 14)), .val (.int (162 : Int32)), .unset] [(.int (162 : Int32))])) (fun _ k => st38.trans k) ?_
    refine own_go (B := T38.setTop (mkF m 246 #[.val (.int p0), .val (.int (9 : Int32)), .val (.ref (A 14)), .val (.int (162 : Int32)), .val (.int (162 : Int32))] [])) (fun _ k => XS.istore X38.here hx rfl (hb hby at_244) rfl (l' := #[.val (.int p0), .val (.int (9 : Int32)), .val (.ref (A 14)), .val (.int (162 : Int32)), .val (.int (162 : Int32))]) rfl k) ?_
    refine own_go (B := T38.setTop (mkF m 248 #[.val (.int p0), .val (.int (9 : Int32)), .val (.ref (A 14)), .val (.int (162 : Int32)), .val (.int (162 : Int32))] [(.int (162 : Int32))])) (fun _ k => XS.iload X38.here hx rfl (hb hby at_246) rfl k) ?_
    refine own_go (B := T38.setTop (mkF m 249 #[.val (.int p0), .val (.int (9 : Int32)), .val (.ref (A 14)), .val (.int (162 : Int32)), .val (.int (162 : Int32))] [(.int (162 : Int32)), (.int (162 : Int32))])) (fun _ k => XS.iloadN X38.here hx rfl (hb hby at_248) rfl k) ?_
    refine own_go (B := T38.setTop (mkF m 254 #[.val (.int p0), .val (.int (9 : Int32)), .val (.ref (A 14)), .val (.int (162 : Int32)), .val (.int (162 : Int32))] [])) (fun _ k => XS.icmpYes X38.here hx rfl (pc0 := 249) (pc' := 254) rfl (hb hby at_249) rfl (by decide) (by decide) (by decide) k) ?_
    refine own_go (B := T38.setTop (mkF m 256 #[.val (.int p0), .val (.int (9 : Int32)), .val (.ref (A 14)), .val (.int (162 : Int32)), .val (.int (162 : Int32))] [(.int (162 : Int32))])) (fun _ k => XS.iload X38.here hx rfl (hb hby at_254) rfl k) ?_
    obtain ⟨_, _, ⟨T39, L39, k39, n39⟩, -, X39, ⟨Lc39, hQ39, l39, y39, z39⟩, st39⟩ := Jvm.LawKit.callS X38 hx (y := (⟨"com/example/ferrybus/ferrybus/codec/PacketType", "of", "(I)Lcom/example/ferrybus/ferrybus/codec/PacketType;"⟩ : MethodName)) hown (mvT hZ (hw _ (List.mem_of_getElem? (i := 13) rfl))) (mvT hZ (hw _ (List.mem_of_getElem? (i := 14) rfl))) (mvT hZ (hw _ (List.mem_of_getElem? (i := 2) rfl))) (mvT hZ (hw _ (List.mem_of_getElem? (i := 15) rfl))) (by decide) (own_back (W := 0) (rm2_9 l Z a0 hw []  A hW h0 x0 ) hZ (hw _ (List.mem_of_getElem? (i := 15) rfl)) (hw _ (List.mem_of_getElem? (i := 2) rfl)) (by decide) (by decide)) (g := (mkF m 256 #[.val (.int p0), .val (.int (9 : Int32)), .val (.ref (A 14)), .val (.int (162 : Int32)), .val (.int (162 : Int32))] [(.int (162 : Int32))])) rfl (by rw [hml]; rfl) (argsL := [(.int (162 : Int32))]) (rest := []) (lenOf pd_1 rfl) rfl (by show 2 * 0 + _ ≤ _; exact Nat.le_of_eq rfl) (hb hby at_256) (fun _ _ => ⟨rfl, e38, (by decide : 0 + 0 ≤ _), (by decide : 0 + 0 ≤ _)⟩)
    dsimp only [Pt.U, Pt.locs, Pt.cells, Pt.slots] at X39 l39 y39 z39 st39 hQ39
    subst l39 y39 z39
    obtain ⟨rfl, N39q, e39⟩ := hQ39
    have N39 := Fr.app N38 N39q
    refine own_go (B := T39.setTop (mkF m 259 #[.val (.int p0), .val (.int (9 : Int32)), .val (.ref (A 14)), .val (.int (162 : Int32)), .val (.int (162 : Int32))] [(.ref (A 14))])) st39 ?_
    refine own_go (B := T39.setTop (mkF m 260 #[.val (.int p0), .val (.int (9 : Int32)), .val (.ref (A 14)), .val (.int (162 : Int32)), .val (.int (162 : Int32))] [(.ref (A 14)), (.ref (A 14))])) (fun _ k => XS.aloadN X39.here hx rfl (hb hby at_259) rfl rfl k) ?_
    refine own_go (B := T39.setTop (mkF m 263 #[.val (.int p0), .val (.int (9 : Int32)), .val (.ref (A 14)), .val (.int (162 : Int32)), .val (.int (162 : Int32))] [])) (fun _ k => Jvm.RoadKit.acmp (g := (mkF m 260 #[.val (.int p0), .val (.int (9 : Int32)), .val (.ref (A 14)), .val (.int (162 : Int32)), .val (.int (162 : Int32))] [(.ref (A 14)), (.ref (A 14))])) X39 hx rfl rfl rfl (pc0 := 260) (pc' := 263) (same := true) rfl (hb hby at_260) rfl (decide_eq_true rfl) (by decide) (by decide) k) ?_
    refine own_go (B := T39.setTop (mkF m 264 #[.val (.int p0), .val (.int (9 : Int32)), .val (.ref (A 14)), .val (.int (162 : Int32)), .val (.int (162 : Int32))] [(.ref (A 14))])) (fun _ k => XS.aloadN X39.here hx rfl (hb hby at_263) rfl rfl k) ?_
    refine own_go (B := T39.setTop (mkF m 266 #[.val (.int p0), .val (.int (9 : Int32)), .val (.ref (A 14)), .val (.int (162 : Int32)), .val (.int (162 : Int32))] [(.int (162 : Int32)), (.ref (A 14))])) (fun _ k => XS.iload X39.here hx rfl (hb hby at_264) rfl k) ?_
    refine own_go (B := T39.setTop (mkF m 268 #[.val (.int p0), .val (.int (9 : Int32)), .val (.ref (A 14)), .val (.int (162 : Int32)), .val (.int (162 : Int32))] [(.int (15 : Int32)), (.int (162 : Int32)), (.ref (A 14))])) (fun _ k => XT.bipushV X39.here hx rfl (15 : Int32) (hb hby at_266) (by decide) k) ?_
    refine own_go (B := T39.setTop (mkF m 269 #[.val (.int p0), .val (.int (9 : Int32)), .val (.ref (A 14)), .val (.int (162 : Int32)), .val (.int (162 : Int32))] [(.int ((162 : Int32) &&& (15 : Int32))), (.ref (A 14))])) (fun _ k => XS.iand X39.here hx rfl (hb hby at_268) rfl k) ?_
    obtain ⟨cq40, kq40, q40a, q40b, q40c⟩ := isOf hZ e39 (E_UNSUBSCRIBE.ext x0)
    obtain ⟨_, _, ⟨T40, L40, k40, n40⟩, -, X40, ⟨Lc40, hQ40, l40, y40, z40⟩, st40⟩ := X39.virtualBack hx (y := (⟨"com/example/ferrybus/ferrybus/codec/PacketType", "allows", "(I)Z"⟩ : MethodName)) (z := (⟨"com/example/ferrybus/ferrybus/codec/PacketType", "allows", "(I)Z"⟩ : MethodName)) hown (mvT hZ (hw _ (List.mem_of_getElem? (i := 18) rfl))) (mvT hZ (hw _ (List.mem_of_getElem? (i := 19) rfl))) (notFace_of_selects (args := #[]) (mvT hZ (hw _ (List.mem_of_getElem? (i := 21) rfl)))) (mvT hZ (hw _ (List.mem_of_getElem? (i := 21) rfl))) (mvT hZ (hw _ (List.mem_of_getElem? (i := 20) rfl))) (by decide) (own_back (W := 0) (rm3_9 l Z a0 hw []  A hW h0 x0 ) hZ (hw _ (List.mem_of_getElem? (i := 22) rfl)) (hw _ (List.mem_of_getElem? (i := 2) rfl)) (by decide) (by decide)) q40a q40c (g := (mkF m 269 #[.val (.int p0), .val (.int (9 : Int32)), .val (.ref (A 14)), .val (.int (162 : Int32)), .val (.int (162 : Int32))] [(.int ((162 : Int32) &&& (15 : Int32))), (.ref (A 14))])) rfl (by rw [hml]; rfl) (Steps.refl _) (argsL := [(.int ((162 : Int32) &&& (15 : Int32)))]) (rest := []) (lenOf pd_2 rfl) rfl (by show 2 * 0 + _ ≤ _; exact Nat.le_of_eq rfl) (hb hby at_269) (fun _ _ => ⟨rfl, e39, (by decide : 0 + 0 ≤ _), (by decide : 0 + 0 ≤ _)⟩)
    dsimp only [Pt.U, Pt.locs, Pt.cells, Pt.slots] at X40 l40 y40 z40 st40 hQ40
    subst l40 y40 z40
    obtain ⟨rfl, N40q, e40⟩ := hQ40
    have N40 := Fr.app N39 N40q
    refine own_go (B := T40.setTop (mkF m 272 #[.val (.int p0), .val (.int (9 : Int32)), .val (.ref (A 14)), .val (.int (162 : Int32)), .val (.int (162 : Int32))] [(.int (1 : Int32))])) (fun _ k => st40.trans k) ?_
    refine own_go (B := T40.setTop (mkF m 275 #[.val (.int p0), .val (.int (9 : Int32)), .val (.ref (A 14)), .val (.int (162 : Int32)), .val (.int (162 : Int32))] [])) (fun _ k => XS.ifNo X40.here hx rfl (hb hby at_272) rfl (by decide) k) ?_
    refine own_go (B := T40.setTop (mkF m 276 #[.val (.int p0), .val (.int (9 : Int32)), .val (.ref (A 14)), .val (.int (162 : Int32)), .val (.int (162 : Int32))] [(.int (1 : Int32))])) (fun _ k => XT.iconstV X40.here hx rfl (1 : Int32) (hb hby at_275) rfl k) ?_
    refine own_go (B := T40.setTop (mkF m 280 #[.val (.int p0), .val (.int (9 : Int32)), .val (.ref (A 14)), .val (.int (162 : Int32)), .val (.int (162 : Int32))] [(.int (1 : Int32))])) (fun _ k => XS.goto X40.here hx rfl (pc0 := 276) (pc' := 280) rfl (hb hby at_276) (by decide) (by decide) k) ?_
    exact own_ret X40 hx (t := .boolean) hrt rfl (Or.inl ⟨rfl, by simp, _, rfl⟩) (hb hby at_280) hlk ⟨rfl, N40⟩ (by decide) (by decide)
  · refine own_go (B := s₁.setTop (mkF m 9 #[.val (.int p0), .val (.int (10 : Int32)), .unset, .unset, .unset] [(.int (10 : Int32))])) (fun _ k => XS.iloadN X0.here hx rfl (hb hby at_8) rfl k) ?_
    refine own_go (B := s₁.setTop (mkF m 22 #[.val (.int p0), .val (.int (10 : Int32)), .unset, .unset, .unset] [])) (fun _ k => XS.ifYes X0.here hx rfl (pc0 := 9) (pc' := 22) rfl (hb hby at_9) rfl (by decide) (by decide) (by decide) k) ?_
    refine own_go (B := s₁.setTop (mkF m 23 #[.val (.int p0), .val (.int (10 : Int32)), .unset, .unset, .unset] [(.int (10 : Int32))])) (fun _ k => XS.iloadN X0.here hx rfl (hb hby at_22) rfl k) ?_
    refine own_go (B := s₁.setTop (mkF m 24 #[.val (.int p0), .val (.int (10 : Int32)), .unset, .unset, .unset] [(.int (1 : Int32)), (.int (10 : Int32))])) (fun _ k => XT.iconstV X0.here hx rfl (1 : Int32) (hb hby at_23) rfl k) ?_
    refine own_go (B := s₁.setTop (mkF m 37 #[.val (.int p0), .val (.int (10 : Int32)), .unset, .unset, .unset] [])) (fun _ k => XS.icmpYes X0.here hx rfl (pc0 := 24) (pc' := 37) rfl (hb hby at_24) rfl (by decide) (by decide) (by decide) k) ?_
    refine own_go (B := s₁.setTop (mkF m 38 #[.val (.int p0), .val (.int (10 : Int32)), .unset, .unset, .unset] [(.int (10 : Int32))])) (fun _ k => XS.iloadN X0.here hx rfl (hb hby at_37) rfl k) ?_
    refine own_go (B := s₁.setTop (mkF m 39 #[.val (.int p0), .val (.int (10 : Int32)), .unset, .unset, .unset] [(.int (2 : Int32)), (.int (10 : Int32))])) (fun _ k => XT.iconstV X0.here hx rfl (2 : Int32) (hb hby at_38) rfl k) ?_
    refine own_go (B := s₁.setTop (mkF m 52 #[.val (.int p0), .val (.int (10 : Int32)), .unset, .unset, .unset] [])) (fun _ k => XS.icmpYes X0.here hx rfl (pc0 := 39) (pc' := 52) rfl (hb hby at_39) rfl (by decide) (by decide) (by decide) k) ?_
    refine own_go (B := s₁.setTop (mkF m 53 #[.val (.int p0), .val (.int (10 : Int32)), .unset, .unset, .unset] [(.int (10 : Int32))])) (fun _ k => XS.iloadN X0.here hx rfl (hb hby at_52) rfl k) ?_
    refine own_go (B := s₁.setTop (mkF m 54 #[.val (.int p0), .val (.int (10 : Int32)), .unset, .unset, .unset] [(.int (3 : Int32)), (.int (10 : Int32))])) (fun _ k => XT.iconstV X0.here hx rfl (3 : Int32) (hb hby at_53) rfl k) ?_
    refine own_go (B := s₁.setTop (mkF m 67 #[.val (.int p0), .val (.int (10 : Int32)), .unset, .unset, .unset] [])) (fun _ k => XS.icmpYes X0.here hx rfl (pc0 := 54) (pc' := 67) rfl (hb hby at_54) rfl (by decide) (by decide) (by decide) k) ?_
    refine own_go (B := s₁.setTop (mkF m 68 #[.val (.int p0), .val (.int (10 : Int32)), .unset, .unset, .unset] [(.int (10 : Int32))])) (fun _ k => XS.iloadN X0.here hx rfl (hb hby at_67) rfl k) ?_
    refine own_go (B := s₁.setTop (mkF m 69 #[.val (.int p0), .val (.int (10 : Int32)), .unset, .unset, .unset] [(.int (4 : Int32)), (.int (10 : Int32))])) (fun _ k => XT.iconstV X0.here hx rfl (4 : Int32) (hb hby at_68) rfl k) ?_
    refine own_go (B := s₁.setTop (mkF m 82 #[.val (.int p0), .val (.int (10 : Int32)), .unset, .unset, .unset] [])) (fun _ k => XS.icmpYes X0.here hx rfl (pc0 := 69) (pc' := 82) rfl (hb hby at_69) rfl (by decide) (by decide) (by decide) k) ?_
    refine own_go (B := s₁.setTop (mkF m 83 #[.val (.int p0), .val (.int (10 : Int32)), .unset, .unset, .unset] [(.int (10 : Int32))])) (fun _ k => XS.iloadN X0.here hx rfl (hb hby at_82) rfl k) ?_
    refine own_go (B := s₁.setTop (mkF m 84 #[.val (.int p0), .val (.int (10 : Int32)), .unset, .unset, .unset] [(.int (5 : Int32)), (.int (10 : Int32))])) (fun _ k => XT.iconstV X0.here hx rfl (5 : Int32) (hb hby at_83) rfl k) ?_
    refine own_go (B := s₁.setTop (mkF m 97 #[.val (.int p0), .val (.int (10 : Int32)), .unset, .unset, .unset] [])) (fun _ k => XS.icmpYes X0.here hx rfl (pc0 := 84) (pc' := 97) rfl (hb hby at_84) rfl (by decide) (by decide) (by decide) k) ?_
    refine own_go (B := s₁.setTop (mkF m 98 #[.val (.int p0), .val (.int (10 : Int32)), .unset, .unset, .unset] [(.int (10 : Int32))])) (fun _ k => XS.iloadN X0.here hx rfl (hb hby at_97) rfl k) ?_
    refine own_go (B := s₁.setTop (mkF m 100 #[.val (.int p0), .val (.int (10 : Int32)), .unset, .unset, .unset] [(.int (6 : Int32)), (.int (10 : Int32))])) (fun _ k => XT.bipushV X0.here hx rfl (6 : Int32) (hb hby at_98) (by decide) k) ?_
    refine own_go (B := s₁.setTop (mkF m 113 #[.val (.int p0), .val (.int (10 : Int32)), .unset, .unset, .unset] [])) (fun _ k => XS.icmpYes X0.here hx rfl (pc0 := 100) (pc' := 113) rfl (hb hby at_100) rfl (by decide) (by decide) (by decide) k) ?_
    refine own_go (B := s₁.setTop (mkF m 114 #[.val (.int p0), .val (.int (10 : Int32)), .unset, .unset, .unset] [(.int (10 : Int32))])) (fun _ k => XS.iloadN X0.here hx rfl (hb hby at_113) rfl k) ?_
    refine own_go (B := s₁.setTop (mkF m 116 #[.val (.int p0), .val (.int (10 : Int32)), .unset, .unset, .unset] [(.int (7 : Int32)), (.int (10 : Int32))])) (fun _ k => XT.bipushV X0.here hx rfl (7 : Int32) (hb hby at_114) (by decide) k) ?_
    refine own_go (B := s₁.setTop (mkF m 130 #[.val (.int p0), .val (.int (10 : Int32)), .unset, .unset, .unset] [])) (fun _ k => XS.icmpYes X0.here hx rfl (pc0 := 116) (pc' := 130) rfl (hb hby at_116) rfl (by decide) (by decide) (by decide) k) ?_
    refine own_go (B := s₁.setTop (mkF m 131 #[.val (.int p0), .val (.int (10 : Int32)), .unset, .unset, .unset] [(.int (10 : Int32))])) (fun _ k => XS.iloadN X0.here hx rfl (hb hby at_130) rfl k) ?_
    refine own_go (B := s₁.setTop (mkF m 133 #[.val (.int p0), .val (.int (10 : Int32)), .unset, .unset, .unset] [(.int (8 : Int32)), (.int (10 : Int32))])) (fun _ k => XT.bipushV X0.here hx rfl (8 : Int32) (hb hby at_131) (by decide) k) ?_
    refine own_go (B := s₁.setTop (mkF m 147 #[.val (.int p0), .val (.int (10 : Int32)), .unset, .unset, .unset] [])) (fun _ k => XS.icmpYes X0.here hx rfl (pc0 := 133) (pc' := 147) rfl (hb hby at_133) rfl (by decide) (by decide) (by decide) k) ?_
    refine own_go (B := s₁.setTop (mkF m 148 #[.val (.int p0), .val (.int (10 : Int32)), .unset, .unset, .unset] [(.int (10 : Int32))])) (fun _ k => XS.iloadN X0.here hx rfl (hb hby at_147) rfl k) ?_
    refine own_go (B := s₁.setTop (mkF m 150 #[.val (.int p0), .val (.int (10 : Int32)), .unset, .unset, .unset] [(.int (9 : Int32)), (.int (10 : Int32))])) (fun _ k => XT.bipushV X0.here hx rfl (9 : Int32) (hb hby at_148) (by decide) k) ?_
    refine own_go (B := s₁.setTop (mkF m 164 #[.val (.int p0), .val (.int (10 : Int32)), .unset, .unset, .unset] [])) (fun _ k => XS.icmpYes X0.here hx rfl (pc0 := 150) (pc' := 164) rfl (hb hby at_150) rfl (by decide) (by decide) (by decide) k) ?_
    refine own_go (B := s₁.setTop (mkF m 165 #[.val (.int p0), .val (.int (10 : Int32)), .unset, .unset, .unset] [(.int (10 : Int32))])) (fun _ k => XS.iloadN X0.here hx rfl (hb hby at_164) rfl k) ?_
    refine own_go (B := s₁.setTop (mkF m 167 #[.val (.int p0), .val (.int (10 : Int32)), .unset, .unset, .unset] [(.int (10 : Int32)), (.int (10 : Int32))])) (fun _ k => XT.bipushV X0.here hx rfl (10 : Int32) (hb hby at_165) (by decide) k) ?_
    refine own_go (B := s₁.setTop (mkF m 170 #[.val (.int p0), .val (.int (10 : Int32)), .unset, .unset, .unset] [])) (fun _ k => XS.icmpNo X0.here hx rfl (hb hby at_167) rfl (by decide) k) ?_
    obtain ⟨T41, X41, e41, st41⟩ := getS2 X0 hx hZ hown (host := "") (Or.inl (hw _ (List.mem_of_getElem? (i := 39) rfl))) Via.refl e0 (S_UNSUBACK.ext x0) (g := (mkF m 170 #[.val (.int p0), .val (.int (10 : Int32)), .unset, .unset, .unset] [])) rfl (hb hby at_170)
    refine own_go (B := T41.setTop (mkF m 173 #[.val (.int p0), .val (.int (10 : Int32)), .unset, .unset, .unset] [(.ref (A 9))])) st41 ?_
    refine own_go (B := T41.setTop (mkF m 174 #[.val (.int p0), .val (.int (10 : Int32)), .val (.ref (A 9)), .unset, .unset] [])) (fun _ k => XS.astoreN X41.here hx rfl (hb hby at_173) rfl rfl (l' := #[.val (.int p0), .val (.int (10 : Int32)), .val (.ref (A 9)), .unset, .unset]) rfl k) ?_
    refine own_go (B := T41.setTop (mkF m 177 #[.val (.int p0), .val (.int (10 : Int32)), .val (.ref (A 9)), .unset, .unset] [(.int (176 : Int32))])) (fun _ k => XT.sipushV X41.here hx rfl (176 : Int32) (hb hby at_174) (by decide) k) ?_
    refine own_go (B := T41.setTop (mkF m 178 #[.val (.int p0), .val (.int (10 : Int32)), .val (.ref (A 9)), .val (.int (176 : Int32)), .unset] [])) (fun _ k => XS.istoreN X41.here hx rfl (hb hby at_177) rfl (l' := #[.val (.int p0), .val (.int (10 : Int32)), .val (.ref (A 9)), .val (.int (176 : Int32)), .unset]) rfl k) ?_
    refine own_go (B := T41.setTop (mkF m 240 #[.val (.int p0), .val (.int (10 : Int32)), .val (.ref (A 9)), .val (.int (176 : Int32)), .unset] [])) (fun _ k => XS.goto X41.here hx rfl (pc0 := 178) (pc' := 240) rfl (hb hby at_178) (by decide) (by decide) k) ?_
    refine own_go (B := T41.setTop (mkF m 241 #[.val (.int p0), .val (.int (10 : Int32)), .val (.ref (A 9)), .val (.int (176 : Int32)), .unset] [(.ref (A 9))])) (fun _ k => XS.aloadN X41.here hx rfl (hb hby at_240) rfl rfl k) ?_
    obtain ⟨cq42, kq42, q42a, q42b, q42c⟩ := isOf hZ e41 (E_UNSUBACK.ext x0)
    obtain ⟨_, _, ⟨T42, L42, k42, n42⟩, -, X42, ⟨Lc42, hQ42, l42, y42, z42⟩, st42⟩ := X41.virtualBack hx (y := (⟨"com/example/ferrybus/ferrybus/codec/PacketType", "firstByte", "()I"⟩ : MethodName)) (z := (⟨"com/example/ferrybus/ferrybus/codec/PacketType", "firstByte", "()I"⟩ : MethodName)) hown (mvT hZ (hw _ (List.mem_of_getElem? (i := 4) rfl))) (mvT hZ (hw _ (List.mem_of_getElem? (i := 5) rfl))) (notFace_of_selects (args := #[]) (mvT hZ (hw _ (List.mem_of_getElem? (i := 7) rfl)))) (mvT hZ (hw _ (List.mem_of_getElem? (i := 7) rfl))) (mvT hZ (hw _ (List.mem_of_getElem? (i := 6) rfl))) (by decide) (own_back (W := 0) (rm1_10 l Z a0 hw []  A hW h0 x0 ) hZ (hw _ (List.mem_of_getElem? (i := 8) rfl)) (hw _ (List.mem_of_getElem? (i := 2) rfl)) (by decide) (by decide)) q42a q42c (g := (mkF m 241 #[.val (.int p0), .val (.int (10 : Int32)), .val (.ref (A 9)), .val (.int (176 : Int32)), .unset] [(.ref (A 9))])) rfl (by rw [hml]; rfl) (Steps.refl _) (argsL := []) (rest := []) (lenOf pd_0 rfl) rfl (by show 2 * 0 + _ ≤ _; exact Nat.le_of_eq rfl) (hb hby at_241) (fun _ _ => ⟨rfl, e41, (by decide : 0 + 0 ≤ _), (by decide : 0 + 0 ≤ _)⟩)
    dsimp only [Pt.U, Pt.locs, Pt.cells, Pt.slots] at X42 l42 y42 z42 st42 hQ42
    subst l42 y42 z42
    obtain ⟨rfl, N42q, e42⟩ := hQ42
    have N42 := Fr.app N0 N42q
    refine own_go (B := T42.setTop (mkF m 244 #[.val (.int p0), .val (.int (10 : Int32)), .val (.ref (A 9)), .val (.int (176 : Int32)), .unset] [(.int (176 : Int32))])) (fun _ k => st42.trans k) ?_
    refine own_go (B := T42.setTop (mkF m 246 #[.val (.int p0), .val (.int (10 : Int32)), .val (.ref (A 9)), .val (.int (176 : Int32)), .val (.int (176 : Int32))] [])) (fun _ k => XS.istore X42.here hx rfl (hb hby at_244) rfl (l' := #[.val (.int p0), .val (.int (10 : Int32)), .val (.ref (A 9)), .val (.int (176 : Int32)), .val (.int (176 : Int32))]) rfl k) ?_
    refine own_go (B := T42.setTop (mkF m 248 #[.val (.int p0), .val (.int (10 : Int32)), .val (.ref (A 9)), .val (.int (176 : Int32)), .val (.int (176 : Int32))] [(.int (176 : Int32))])) (fun _ k => XS.iload X42.here hx rfl (hb hby at_246) rfl k) ?_
    refine own_go (B := T42.setTop (mkF m 249 #[.val (.int p0), .val (.int (10 : Int32)), .val (.ref (A 9)), .val (.int (176 : Int32)), .val (.int (176 : Int32))] [(.int (176 : Int32)), (.int (176 : Int32))])) (fun _ k => XS.iloadN X42.here hx rfl (hb hby at_248) rfl k) ?_
    refine own_go (B := T42.setTop (mkF m 254 #[.val (.int p0), .val (.int (10 : Int32)), .val (.ref (A 9)), .val (.int (176 : Int32)), .val (.int (176 : Int32))] [])) (fun _ k => XS.icmpYes X42.here hx rfl (pc0 := 249) (pc' := 254) rfl (hb hby at_249) rfl (by decide) (by decide) (by decide) k) ?_
    refine own_go (B := T42.setTop (mkF m 256 #[.val (.int p0), .val (.int (10 : Int32)), .val (.ref (A 9)), .val (.int (176 : Int32)), .val (.int (176 : Int32))] [(.int (176 : Int32))])) (fun _ k => XS.iload X42.here hx rfl (hb hby at_254) rfl k) ?_
    obtain ⟨_, _, ⟨T43, L43, k43, n43⟩, -, X43, ⟨Lc43, hQ43, l43, y43, z43⟩, st43⟩ := Jvm.LawKit.callS X42 hx (y := (⟨"com/example/ferrybus/ferrybus/codec/PacketType", "of", "(I)Lcom/example/ferrybus/ferrybus/codec/PacketType;"⟩ : MethodName)) hown (mvT hZ (hw _ (List.mem_of_getElem? (i := 13) rfl))) (mvT hZ (hw _ (List.mem_of_getElem? (i := 14) rfl))) (mvT hZ (hw _ (List.mem_of_getElem? (i := 2) rfl))) (mvT hZ (hw _ (List.mem_of_getElem? (i := 15) rfl))) (by decide) (own_back (W := 0) (rm2_10 l Z a0 hw []  A hW h0 x0 ) hZ (hw _ (List.mem_of_getElem? (i := 15) rfl)) (hw _ (List.mem_of_getElem? (i := 2) rfl)) (by decide) (by decide)) (g := (mkF m 256 #[.val (.int p0), .val (.int (10 : Int32)), .val (.ref (A 9)), .val (.int (176 : Int32)), .val (.int (176 : Int32))] [(.int (176 : Int32))])) rfl (by rw [hml]; rfl) (argsL := [(.int (176 : Int32))]) (rest := []) (lenOf pd_1 rfl) rfl (by show 2 * 0 + _ ≤ _; exact Nat.le_of_eq rfl) (hb hby at_256) (fun _ _ => ⟨rfl, e42, (by decide : 0 + 0 ≤ _), (by decide : 0 + 0 ≤ _)⟩)
    dsimp only [Pt.U, Pt.locs, Pt.cells, Pt.slots] at X43 l43 y43 z43 st43 hQ43
    subst l43 y43 z43
    obtain ⟨rfl, N43q, e43⟩ := hQ43
    have N43 := Fr.app N42 N43q
    refine own_go (B := T43.setTop (mkF m 259 #[.val (.int p0), .val (.int (10 : Int32)), .val (.ref (A 9)), .val (.int (176 : Int32)), .val (.int (176 : Int32))] [(.ref (A 9))])) st43 ?_
    refine own_go (B := T43.setTop (mkF m 260 #[.val (.int p0), .val (.int (10 : Int32)), .val (.ref (A 9)), .val (.int (176 : Int32)), .val (.int (176 : Int32))] [(.ref (A 9)), (.ref (A 9))])) (fun _ k => XS.aloadN X43.here hx rfl (hb hby at_259) rfl rfl k) ?_
    refine own_go (B := T43.setTop (mkF m 263 #[.val (.int p0), .val (.int (10 : Int32)), .val (.ref (A 9)), .val (.int (176 : Int32)), .val (.int (176 : Int32))] [])) (fun _ k => Jvm.RoadKit.acmp (g := (mkF m 260 #[.val (.int p0), .val (.int (10 : Int32)), .val (.ref (A 9)), .val (.int (176 : Int32)), .val (.int (176 : Int32))] [(.ref (A 9)), (.ref (A 9))])) X43 hx rfl rfl rfl (pc0 := 260) (pc' := 263) (same := true) rfl (hb hby at_260) rfl (decide_eq_true rfl) (by decide) (by decide) k) ?_
    refine own_go (B := T43.setTop (mkF m 264 #[.val (.int p0), .val (.int (10 : Int32)), .val (.ref (A 9)), .val (.int (176 : Int32)), .val (.int (176 : Int32))] [(.ref (A 9))])) (fun _ k => XS.aloadN X43.here hx rfl (hb hby at_263) rfl rfl k) ?_
    refine own_go (B := T43.setTop (mkF m 266 #[.val (.int p0), .val (.int (10 : Int32)), .val (.ref (A 9)), .val (.int (176 : Int32)), .val (.int (176 : Int32))] [(.int (176 : Int32)), (.ref (A 9))])) (fun _ k => XS.iload X43.here hx rfl (hb hby at_264) rfl k) ?_
    refine own_go (B := T43.setTop (mkF m 268 #[.val (.int p0), .val (.int (10 : Int32)), .val (.ref (A 9)), .val (.int (176 : Int32)), .val (.int (176 : Int32))] [(.int (15 : Int32)), (.int (176 : Int32)), (.ref (A 9))])) (fun _ k => XT.bipushV X43.here hx rfl (15 : Int32) (hb hby at_266) (by decide) k) ?_
    refine own_go (B := T43.setTop (mkF m 269 #[.val (.int p0), .val (.int (10 : Int32)), .val (.ref (A 9)), .val (.int (176 : Int32)), .val (.int (176 : Int32))] [(.int ((176 : Int32) &&& (15 : Int32))), (.ref (A 9))])) (fun _ k => XS.iand X43.here hx rfl (hb hby at_268) rfl k) ?_
    obtain ⟨cq44, kq44, q44a, q44b, q44c⟩ := isOf hZ e43 (E_UNSUBACK.ext x0)
    obtain ⟨_, _, ⟨T44, L44, k44, n44⟩, -, X44, ⟨Lc44, hQ44, l44, y44, z44⟩, st44⟩ := X43.virtualBack hx (y := (⟨"com/example/ferrybus/ferrybus/codec/PacketType", "allows", "(I)Z"⟩ : MethodName)) (z := (⟨"com/example/ferrybus/ferrybus/codec/PacketType", "allows", "(I)Z"⟩ : MethodName)) hown (mvT hZ (hw _ (List.mem_of_getElem? (i := 18) rfl))) (mvT hZ (hw _ (List.mem_of_getElem? (i := 19) rfl))) (notFace_of_selects (args := #[]) (mvT hZ (hw _ (List.mem_of_getElem? (i := 21) rfl)))) (mvT hZ (hw _ (List.mem_of_getElem? (i := 21) rfl))) (mvT hZ (hw _ (List.mem_of_getElem? (i := 20) rfl))) (by decide) (own_back (W := 0) (rm3_10 l Z a0 hw []  A hW h0 x0 ) hZ (hw _ (List.mem_of_getElem? (i := 22) rfl)) (hw _ (List.mem_of_getElem? (i := 2) rfl)) (by decide) (by decide)) q44a q44c (g := (mkF m 269 #[.val (.int p0), .val (.int (10 : Int32)), .val (.ref (A 9)), .val (.int (176 : Int32)), .val (.int (176 : Int32))] [(.int ((176 : Int32) &&& (15 : Int32))), (.ref (A 9))])) rfl (by rw [hml]; rfl) (Steps.refl _) (argsL := [(.int ((176 : Int32) &&& (15 : Int32)))]) (rest := []) (lenOf pd_2 rfl) rfl (by show 2 * 0 + _ ≤ _; exact Nat.le_of_eq rfl) (hb hby at_269) (fun _ _ => ⟨rfl, e43, (by decide : 0 + 0 ≤ _), (by decide : 0 + 0 ≤ _)⟩)
    dsimp only [Pt.U, Pt.locs, Pt.cells, Pt.slots] at X44 l44 y44 z44 st44 hQ44
    subst l44 y44 z44
    obtain ⟨rfl, N44q, e44⟩ := hQ44
    have N44 := Fr.app N43 N44q
    refine own_go (B := T44.setTop (mkF m 272 #[.val (.int p0), .val (.int (10 : Int32)), .val (.ref (A 9)), .val (.int (176 : Int32)), .val (.int (176 : Int32))] [(.int (1 : Int32))])) (fun _ k => st44.trans k) ?_
    refine own_go (B := T44.setTop (mkF m 275 #[.val (.int p0), .val (.int (10 : Int32)), .val (.ref (A 9)), .val (.int (176 : Int32)), .val (.int (176 : Int32))] [])) (fun _ k => XS.ifNo X44.here hx rfl (hb hby at_272) rfl (by decide) k) ?_
    refine own_go (B := T44.setTop (mkF m 276 #[.val (.int p0), .val (.int (10 : Int32)), .val (.ref (A 9)), .val (.int (176 : Int32)), .val (.int (176 : Int32))] [(.int (1 : Int32))])) (fun _ k => XT.iconstV X44.here hx rfl (1 : Int32) (hb hby at_275) rfl k) ?_
    refine own_go (B := T44.setTop (mkF m 280 #[.val (.int p0), .val (.int (10 : Int32)), .val (.ref (A 9)), .val (.int (176 : Int32)), .val (.int (176 : Int32))] [(.int (1 : Int32))])) (fun _ k => XS.goto X44.here hx rfl (pc0 := 276) (pc' := 280) rfl (hb hby at_276) (by decide) (by decide) k) ?_
    exact own_ret X44 hx (t := .boolean) hrt rfl (Or.inl ⟨rfl, by simp, _, rfl⟩) (hb hby at_280) hlk ⟨rfl, N44⟩ (by decide) (by decide)
  · refine own_go (B := s₁.setTop (mkF m 9 #[.val (.int p0), .val (.int (11 : Int32)), .unset, .unset, .unset] [(.int (11 : Int32))])) (fun _ k => XS.iloadN X0.here hx rfl (hb hby at_8) rfl k) ?_
    refine own_go (B := s₁.setTop (mkF m 22 #[.val (.int p0), .val (.int (11 : Int32)), .unset, .unset, .unset] [])) (fun _ k => XS.ifYes X0.here hx rfl (pc0 := 9) (pc' := 22) rfl (hb hby at_9) rfl (by decide) (by decide) (by decide) k) ?_
    refine own_go (B := s₁.setTop (mkF m 23 #[.val (.int p0), .val (.int (11 : Int32)), .unset, .unset, .unset] [(.int (11 : Int32))])) (fun _ k => XS.iloadN X0.here hx rfl (hb hby at_22) rfl k) ?_
    refine own_go (B := s₁.setTop (mkF m 24 #[.val (.int p0), .val (.int (11 : Int32)), .unset, .unset, .unset] [(.int (1 : Int32)), (.int (11 : Int32))])) (fun _ k => XT.iconstV X0.here hx rfl (1 : Int32) (hb hby at_23) rfl k) ?_
    refine own_go (B := s₁.setTop (mkF m 37 #[.val (.int p0), .val (.int (11 : Int32)), .unset, .unset, .unset] [])) (fun _ k => XS.icmpYes X0.here hx rfl (pc0 := 24) (pc' := 37) rfl (hb hby at_24) rfl (by decide) (by decide) (by decide) k) ?_
    refine own_go (B := s₁.setTop (mkF m 38 #[.val (.int p0), .val (.int (11 : Int32)), .unset, .unset, .unset] [(.int (11 : Int32))])) (fun _ k => XS.iloadN X0.here hx rfl (hb hby at_37) rfl k) ?_
    refine own_go (B := s₁.setTop (mkF m 39 #[.val (.int p0), .val (.int (11 : Int32)), .unset, .unset, .unset] [(.int (2 : Int32)), (.int (11 : Int32))])) (fun _ k => XT.iconstV X0.here hx rfl (2 : Int32) (hb hby at_38) rfl k) ?_
    refine own_go (B := s₁.setTop (mkF m 52 #[.val (.int p0), .val (.int (11 : Int32)), .unset, .unset, .unset] [])) (fun _ k => XS.icmpYes X0.here hx rfl (pc0 := 39) (pc' := 52) rfl (hb hby at_39) rfl (by decide) (by decide) (by decide) k) ?_
    refine own_go (B := s₁.setTop (mkF m 53 #[.val (.int p0), .val (.int (11 : Int32)), .unset, .unset, .unset] [(.int (11 : Int32))])) (fun _ k => XS.iloadN X0.here hx rfl (hb hby at_52) rfl k) ?_
    refine own_go (B := s₁.setTop (mkF m 54 #[.val (.int p0), .val (.int (11 : Int32)), .unset, .unset, .unset] [(.int (3 : Int32)), (.int (11 : Int32))])) (fun _ k => XT.iconstV X0.here hx rfl (3 : Int32) (hb hby at_53) rfl k) ?_
    refine own_go (B := s₁.setTop (mkF m 67 #[.val (.int p0), .val (.int (11 : Int32)), .unset, .unset, .unset] [])) (fun _ k => XS.icmpYes X0.here hx rfl (pc0 := 54) (pc' := 67) rfl (hb hby at_54) rfl (by decide) (by decide) (by decide) k) ?_
    refine own_go (B := s₁.setTop (mkF m 68 #[.val (.int p0), .val (.int (11 : Int32)), .unset, .unset, .unset] [(.int (11 : Int32))])) (fun _ k => XS.iloadN X0.here hx rfl (hb hby at_67) rfl k) ?_
    refine own_go (B := s₁.setTop (mkF m 69 #[.val (.int p0), .val (.int (11 : Int32)), .unset, .unset, .unset] [(.int (4 : Int32)), (.int (11 : Int32))])) (fun _ k => XT.iconstV X0.here hx rfl (4 : Int32) (hb hby at_68) rfl k) ?_
    refine own_go (B := s₁.setTop (mkF m 82 #[.val (.int p0), .val (.int (11 : Int32)), .unset, .unset, .unset] [])) (fun _ k => XS.icmpYes X0.here hx rfl (pc0 := 69) (pc' := 82) rfl (hb hby at_69) rfl (by decide) (by decide) (by decide) k) ?_
    refine own_go (B := s₁.setTop (mkF m 83 #[.val (.int p0), .val (.int (11 : Int32)), .unset, .unset, .unset] [(.int (11 : Int32))])) (fun _ k => XS.iloadN X0.here hx rfl (hb hby at_82) rfl k) ?_
    refine own_go (B := s₁.setTop (mkF m 84 #[.val (.int p0), .val (.int (11 : Int32)), .unset, .unset, .unset] [(.int (5 : Int32)), (.int (11 : Int32))])) (fun _ k => XT.iconstV X0.here hx rfl (5 : Int32) (hb hby at_83) rfl k) ?_
    refine own_go (B := s₁.setTop (mkF m 97 #[.val (.int p0), .val (.int (11 : Int32)), .unset, .unset, .unset] [])) (fun _ k => XS.icmpYes X0.here hx rfl (pc0 := 84) (pc' := 97) rfl (hb hby at_84) rfl (by decide) (by decide) (by decide) k) ?_
    refine own_go (B := s₁.setTop (mkF m 98 #[.val (.int p0), .val (.int (11 : Int32)), .unset, .unset, .unset] [(.int (11 : Int32))])) (fun _ k => XS.iloadN X0.here hx rfl (hb hby at_97) rfl k) ?_
    refine own_go (B := s₁.setTop (mkF m 100 #[.val (.int p0), .val (.int (11 : Int32)), .unset, .unset, .unset] [(.int (6 : Int32)), (.int (11 : Int32))])) (fun _ k => XT.bipushV X0.here hx rfl (6 : Int32) (hb hby at_98) (by decide) k) ?_
    refine own_go (B := s₁.setTop (mkF m 113 #[.val (.int p0), .val (.int (11 : Int32)), .unset, .unset, .unset] [])) (fun _ k => XS.icmpYes X0.here hx rfl (pc0 := 100) (pc' := 113) rfl (hb hby at_100) rfl (by decide) (by decide) (by decide) k) ?_
    refine own_go (B := s₁.setTop (mkF m 114 #[.val (.int p0), .val (.int (11 : Int32)), .unset, .unset, .unset] [(.int (11 : Int32))])) (fun _ k => XS.iloadN X0.here hx rfl (hb hby at_113) rfl k) ?_
    refine own_go (B := s₁.setTop (mkF m 116 #[.val (.int p0), .val (.int (11 : Int32)), .unset, .unset, .unset] [(.int (7 : Int32)), (.int (11 : Int32))])) (fun _ k => XT.bipushV X0.here hx rfl (7 : Int32) (hb hby at_114) (by decide) k) ?_
    refine own_go (B := s₁.setTop (mkF m 130 #[.val (.int p0), .val (.int (11 : Int32)), .unset, .unset, .unset] [])) (fun _ k => XS.icmpYes X0.here hx rfl (pc0 := 116) (pc' := 130) rfl (hb hby at_116) rfl (by decide) (by decide) (by decide) k) ?_
    refine own_go (B := s₁.setTop (mkF m 131 #[.val (.int p0), .val (.int (11 : Int32)), .unset, .unset, .unset] [(.int (11 : Int32))])) (fun _ k => XS.iloadN X0.here hx rfl (hb hby at_130) rfl k) ?_
    refine own_go (B := s₁.setTop (mkF m 133 #[.val (.int p0), .val (.int (11 : Int32)), .unset, .unset, .unset] [(.int (8 : Int32)), (.int (11 : Int32))])) (fun _ k => XT.bipushV X0.here hx rfl (8 : Int32) (hb hby at_131) (by decide) k) ?_
    refine own_go (B := s₁.setTop (mkF m 147 #[.val (.int p0), .val (.int (11 : Int32)), .unset, .unset, .unset] [])) (fun _ k => XS.icmpYes X0.here hx rfl (pc0 := 133) (pc' := 147) rfl (hb hby at_133) rfl (by decide) (by decide) (by decide) k) ?_
    refine own_go (B := s₁.setTop (mkF m 148 #[.val (.int p0), .val (.int (11 : Int32)), .unset, .unset, .unset] [(.int (11 : Int32))])) (fun _ k => XS.iloadN X0.here hx rfl (hb hby at_147) rfl k) ?_
    refine own_go (B := s₁.setTop (mkF m 150 #[.val (.int p0), .val (.int (11 : Int32)), .unset, .unset, .unset] [(.int (9 : Int32)), (.int (11 : Int32))])) (fun _ k => XT.bipushV X0.here hx rfl (9 : Int32) (hb hby at_148) (by decide) k) ?_
    refine own_go (B := s₁.setTop (mkF m 164 #[.val (.int p0), .val (.int (11 : Int32)), .unset, .unset, .unset] [])) (fun _ k => XS.icmpYes X0.here hx rfl (pc0 := 150) (pc' := 164) rfl (hb hby at_150) rfl (by decide) (by decide) (by decide) k) ?_
    refine own_go (B := s₁.setTop (mkF m 165 #[.val (.int p0), .val (.int (11 : Int32)), .unset, .unset, .unset] [(.int (11 : Int32))])) (fun _ k => XS.iloadN X0.here hx rfl (hb hby at_164) rfl k) ?_
    refine own_go (B := s₁.setTop (mkF m 167 #[.val (.int p0), .val (.int (11 : Int32)), .unset, .unset, .unset] [(.int (10 : Int32)), (.int (11 : Int32))])) (fun _ k => XT.bipushV X0.here hx rfl (10 : Int32) (hb hby at_165) (by decide) k) ?_
    refine own_go (B := s₁.setTop (mkF m 181 #[.val (.int p0), .val (.int (11 : Int32)), .unset, .unset, .unset] [])) (fun _ k => XS.icmpYes X0.here hx rfl (pc0 := 167) (pc' := 181) rfl (hb hby at_167) rfl (by decide) (by decide) (by decide) k) ?_
    refine own_go (B := s₁.setTop (mkF m 182 #[.val (.int p0), .val (.int (11 : Int32)), .unset, .unset, .unset] [(.int (11 : Int32))])) (fun _ k => XS.iloadN X0.here hx rfl (hb hby at_181) rfl k) ?_
    refine own_go (B := s₁.setTop (mkF m 184 #[.val (.int p0), .val (.int (11 : Int32)), .unset, .unset, .unset] [(.int (11 : Int32)), (.int (11 : Int32))])) (fun _ k => XT.bipushV X0.here hx rfl (11 : Int32) (hb hby at_182) (by decide) k) ?_
    refine own_go (B := s₁.setTop (mkF m 187 #[.val (.int p0), .val (.int (11 : Int32)), .unset, .unset, .unset] [])) (fun _ k => XS.icmpNo X0.here hx rfl (hb hby at_184) rfl (by decide) k) ?_
    obtain ⟨T45, X45, e45, st45⟩ := getS2 X0 hx hZ hown (host := "") (Or.inl (hw _ (List.mem_of_getElem? (i := 37) rfl))) Via.refl e0 (S_PINGREQ.ext x0) (g := (mkF m 187 #[.val (.int p0), .val (.int (11 : Int32)), .unset, .unset, .unset] [])) rfl (hb hby at_187)
    refine own_go (B := T45.setTop (mkF m 190 #[.val (.int p0), .val (.int (11 : Int32)), .unset, .unset, .unset] [(.ref (A 8))])) st45 ?_
    refine own_go (B := T45.setTop (mkF m 191 #[.val (.int p0), .val (.int (11 : Int32)), .val (.ref (A 8)), .unset, .unset] [])) (fun _ k => XS.astoreN X45.here hx rfl (hb hby at_190) rfl rfl (l' := #[.val (.int p0), .val (.int (11 : Int32)), .val (.ref (A 8)), .unset, .unset]) rfl k) ?_
    refine own_go (B := T45.setTop (mkF m 194 #[.val (.int p0), .val (.int (11 : Int32)), .val (.ref (A 8)), .unset, .unset] [(.int (192 : Int32))])) (fun _ k => XT.sipushV X45.here hx rfl (192 : Int32) (hb hby at_191) (by decide) k) ?_
    refine own_go (B := T45.setTop (mkF m 195 #[.val (.int p0), .val (.int (11 : Int32)), .val (.ref (A 8)), .val (.int (192 : Int32)), .unset] [])) (fun _ k => XS.istoreN X45.here hx rfl (hb hby at_194) rfl (l' := #[.val (.int p0), .val (.int (11 : Int32)), .val (.ref (A 8)), .val (.int (192 : Int32)), .unset]) rfl k) ?_
    refine own_go (B := T45.setTop (mkF m 240 #[.val (.int p0), .val (.int (11 : Int32)), .val (.ref (A 8)), .val (.int (192 : Int32)), .unset] [])) (fun _ k => XS.goto X45.here hx rfl (pc0 := 195) (pc' := 240) rfl (hb hby at_195) (by decide) (by decide) k) ?_
    refine own_go (B := T45.setTop (mkF m 241 #[.val (.int p0), .val (.int (11 : Int32)), .val (.ref (A 8)), .val (.int (192 : Int32)), .unset] [(.ref (A 8))])) (fun _ k => XS.aloadN X45.here hx rfl (hb hby at_240) rfl rfl k) ?_
    obtain ⟨cq46, kq46, q46a, q46b, q46c⟩ := isOf hZ e45 (E_PINGREQ.ext x0)
    obtain ⟨_, _, ⟨T46, L46, k46, n46⟩, -, X46, ⟨Lc46, hQ46, l46, y46, z46⟩, st46⟩ := X45.virtualBack hx (y := (⟨"com/example/ferrybus/ferrybus/codec/PacketType", "firstByte", "()I"⟩ : MethodName)) (z := (⟨"com/example/ferrybus/ferrybus/codec/PacketType", "firstByte", "()I"⟩ : MethodName)) hown (mvT hZ (hw _ (List.mem_of_getElem? (i := 4) rfl))) (mvT hZ (hw _ (List.mem_of_getElem? (i := 5) rfl))) (notFace_of_selects (args := #[]) (mvT hZ (hw _ (List.mem_of_getElem? (i := 7) rfl)))) (mvT hZ (hw _ (List.mem_of_getElem? (i := 7) rfl))) (mvT hZ (hw _ (List.mem_of_getElem? (i := 6) rfl))) (by decide) (own_back (W := 0) (rm1_11 l Z a0 hw []  A hW h0 x0 ) hZ (hw _ (List.mem_of_getElem? (i := 8) rfl)) (hw _ (List.mem_of_getElem? (i := 2) rfl)) (by decide) (by decide)) q46a q46c (g := (mkF m 241 #[.val (.int p0), .val (.int (11 : Int32)), .val (.ref (A 8)), .val (.int (192 : Int32)), .unset] [(.ref (A 8))])) rfl (by rw [hml]; rfl) (Steps.refl _) (argsL := []) (rest := []) (lenOf pd_0 rfl) rfl (by show 2 * 0 + _ ≤ _; exact Nat.le_of_eq rfl) (hb hby at_241) (fun _ _ => ⟨rfl, e45, (by decide : 0 + 0 ≤ _), (by decide : 0 + 0 ≤ _)⟩)
    dsimp only [Pt.U, Pt.locs, Pt.cells, Pt.slots] at X46 l46 y46 z46 st46 hQ46
    subst l46 y46 z46
    obtain ⟨rfl, N46q, e46⟩ := hQ46
    have N46 := Fr.app N0 N46q
    refine own_go (B := T46.setTop (mkF m 244 #[.val (.int p0), .val (.int (11 : Int32)), .val (.ref (A 8)), .val (.int (192 : Int32)), .unset] [(.int (192 : Int32))])) (fun _ k => st46.trans k) ?_
    refine own_go (B := T46.setTop (mkF m 246 #[.val (.int p0), .val (.int (11 : Int32)), .val (.ref (A 8)), .val (.int (192 : Int32)), .val (.int (192 : Int32))] [])) (fun _ k => XS.istore X46.here hx rfl (hb hby at_244) rfl (l' := #[.val (.int p0), .val (.int (11 : Int32)), .val (.ref (A 8)), .val (.int (192 : Int32)), .val (.int (192 : Int32))]) rfl k) ?_
    refine own_go (B := T46.setTop (mkF m 248 #[.val (.int p0), .val (.int (11 : Int32)), .val (.ref (A 8)), .val (.int (192 : Int32)), .val (.int (192 : Int32))] [(.int (192 : Int32))])) (fun _ k => XS.iload X46.here hx rfl (hb hby at_246) rfl k) ?_
    refine own_go (B := T46.setTop (mkF m 249 #[.val (.int p0), .val (.int (11 : Int32)), .val (.ref (A 8)), .val (.int (192 : Int32)), .val (.int (192 : Int32))] [(.int (192 : Int32)), (.int (192 : Int32))])) (fun _ k => XS.iloadN X46.here hx rfl (hb hby at_248) rfl k) ?_
    refine own_go (B := T46.setTop (mkF m 254 #[.val (.int p0), .val (.int (11 : Int32)), .val (.ref (A 8)), .val (.int (192 : Int32)), .val (.int (192 : Int32))] [])) (fun _ k => XS.icmpYes X46.here hx rfl (pc0 := 249) (pc' := 254) rfl (hb hby at_249) rfl (by decide) (by decide) (by decide) k) ?_
    refine own_go (B := T46.setTop (mkF m 256 #[.val (.int p0), .val (.int (11 : Int32)), .val (.ref (A 8)), .val (.int (192 : Int32)), .val (.int (192 : Int32))] [(.int (192 : Int32))])) (fun _ k => XS.iload X46.here hx rfl (hb hby at_254) rfl k) ?_
    obtain ⟨_, _, ⟨T47, L47, k47, n47⟩, -, X47, ⟨Lc47, hQ47, l47, y47, z47⟩, st47⟩ := Jvm.LawKit.callS X46 hx (y := (⟨"com/example/ferrybus/ferrybus/codec/PacketType", "of", "(I)Lcom/example/ferrybus/ferrybus/codec/PacketType;"⟩ : MethodName)) hown (mvT hZ (hw _ (List.mem_of_getElem? (i := 13) rfl))) (mvT hZ (hw _ (List.mem_of_getElem? (i := 14) rfl))) (mvT hZ (hw _ (List.mem_of_getElem? (i := 2) rfl))) (mvT hZ (hw _ (List.mem_of_getElem? (i := 15) rfl))) (by decide) (own_back (W := 0) (rm2_11 l Z a0 hw []  A hW h0 x0 ) hZ (hw _ (List.mem_of_getElem? (i := 15) rfl)) (hw _ (List.mem_of_getElem? (i := 2) rfl)) (by decide) (by decide)) (g := (mkF m 256 #[.val (.int p0), .val (.int (11 : Int32)), .val (.ref (A 8)), .val (.int (192 : Int32)), .val (.int (192 : Int32))] [(.int (192 : Int32))])) rfl (by rw [hml]; rfl) (argsL := [(.int (192 : Int32))]) (rest := []) (lenOf pd_1 rfl) rfl (by show 2 * 0 + _ ≤ _; exact Nat.le_of_eq rfl) (hb hby at_256) (fun _ _ => ⟨rfl, e46, (by decide : 0 + 0 ≤ _), (by decide : 0 + 0 ≤ _)⟩)
    dsimp only [Pt.U, Pt.locs, Pt.cells, Pt.slots] at X47 l47 y47 z47 st47 hQ47
    subst l47 y47 z47
    obtain ⟨rfl, N47q, e47⟩ := hQ47
    have N47 := Fr.app N46 N47q
    refine own_go (B := T47.setTop (mkF m 259 #[.val (.int p0), .val (.int (11 : Int32)), .val (.ref (A 8)), .val (.int (192 : Int32)), .val (.int (192 : Int32))] [(.ref (A 8))])) st47 ?_
    refine own_go (B := T47.setTop (mkF m 260 #[.val (.int p0), .val (.int (11 : Int32)), .val (.ref (A 8)), .val (.int (192 : Int32)), .val (.int (192 : Int32))] [(.ref (A 8)), (.ref (A 8))])) (fun _ k => XS.aloadN X47.here hx rfl (hb hby at_259) rfl rfl k) ?_
    refine own_go (B := T47.setTop (mkF m 263 #[.val (.int p0), .val (.int (11 : Int32)), .val (.ref (A 8)), .val (.int (192 : Int32)), .val (.int (192 : Int32))] [])) (fun _ k => Jvm.RoadKit.acmp (g := (mkF m 260 #[.val (.int p0), .val (.int (11 : Int32)), .val (.ref (A 8)), .val (.int (192 : Int32)), .val (.int (192 : Int32))] [(.ref (A 8)), (.ref (A 8))])) X47 hx rfl rfl rfl (pc0 := 260) (pc' := 263) (same := true) rfl (hb hby at_260) rfl (decide_eq_true rfl) (by decide) (by decide) k) ?_
    refine own_go (B := T47.setTop (mkF m 264 #[.val (.int p0), .val (.int (11 : Int32)), .val (.ref (A 8)), .val (.int (192 : Int32)), .val (.int (192 : Int32))] [(.ref (A 8))])) (fun _ k => XS.aloadN X47.here hx rfl (hb hby at_263) rfl rfl k) ?_
    refine own_go (B := T47.setTop (mkF m 266 #[.val (.int p0), .val (.int (11 : Int32)), .val (.ref (A 8)), .val (.int (192 : Int32)), .val (.int (192 : Int32))] [(.int (192 : Int32)), (.ref (A 8))])) (fun _ k => XS.iload X47.here hx rfl (hb hby at_264) rfl k) ?_
    refine own_go (B := T47.setTop (mkF m 268 #[.val (.int p0), .val (.int (11 : Int32)), .val (.ref (A 8)), .val (.int (192 : Int32)), .val (.int (192 : Int32))] [(.int (15 : Int32)), (.int (192 : Int32)), (.ref (A 8))])) (fun _ k => XT.bipushV X47.here hx rfl (15 : Int32) (hb hby at_266) (by decide) k) ?_
    refine own_go (B := T47.setTop (mkF m 269 #[.val (.int p0), .val (.int (11 : Int32)), .val (.ref (A 8)), .val (.int (192 : Int32)), .val (.int (192 : Int32))] [(.int ((192 : Int32) &&& (15 : Int32))), (.ref (A 8))])) (fun _ k => XS.iand X47.here hx rfl (hb hby at_268) rfl k) ?_
    obtain ⟨cq48, kq48, q48a, q48b, q48c⟩ := isOf hZ e47 (E_PINGREQ.ext x0)
    obtain ⟨_, _, ⟨T48, L48, k48, n48⟩, -, X48, ⟨Lc48, hQ48, l48, y48, z48⟩, st48⟩ := X47.virtualBack hx (y := (⟨"com/example/ferrybus/ferrybus/codec/PacketType", "allows", "(I)Z"⟩ : MethodName)) (z := (⟨"com/example/ferrybus/ferrybus/codec/PacketType", "allows", "(I)Z"⟩ : MethodName)) hown (mvT hZ (hw _ (List.mem_of_getElem? (i := 18) rfl))) (mvT hZ (hw _ (List.mem_of_getElem? (i := 19) rfl))) (notFace_of_selects (args := #[]) (mvT hZ (hw _ (List.mem_of_getElem? (i := 21) rfl)))) (mvT hZ (hw _ (List.mem_of_getElem? (i := 21) rfl))) (mvT hZ (hw _ (List.mem_of_getElem? (i := 20) rfl))) (by decide) (own_back (W := 0) (rm3_11 l Z a0 hw []  A hW h0 x0 ) hZ (hw _ (List.mem_of_getElem? (i := 22) rfl)) (hw _ (List.mem_of_getElem? (i := 2) rfl)) (by decide) (by decide)) q48a q48c (g := (mkF m 269 #[.val (.int p0), .val (.int (11 : Int32)), .val (.ref (A 8)), .val (.int (192 : Int32)), .val (.int (192 : Int32))] [(.int ((192 : Int32) &&& (15 : Int32))), (.ref (A 8))])) rfl (by rw [hml]; rfl) (Steps.refl _) (argsL := [(.int ((192 : Int32) &&& (15 : Int32)))]) (rest := []) (lenOf pd_2 rfl) rfl (by show 2 * 0 + _ ≤ _; exact Nat.le_of_eq rfl) (hb hby at_269) (fun _ _ => ⟨rfl, e47, (by decide : 0 + 0 ≤ _), (by decide : 0 + 0 ≤ _)⟩)
    dsimp only [Pt.U, Pt.locs, Pt.cells, Pt.slots] at X48 l48 y48 z48 st48 hQ48
    subst l48 y48 z48
    obtain ⟨rfl, N48q, e48⟩ := hQ48
    have N48 := Fr.app N47 N48q
    refine own_go (B := T48.setTop (mkF m 272 #[.val (.int p0), .val (.int (11 : Int32)), .val (.ref (A 8)), .val (.int (192 : Int32)), .val (.int (192 : Int32))] [(.int (1 : Int32))])) (fun _ k => st48.trans k) ?_
    refine own_go (B := T48.setTop (mkF m 275 #[.val (.int p0), .val (.int (11 : Int32)), .val (.ref (A 8)), .val (.int (192 : Int32)), .val (.int (192 : Int32))] [])) (fun _ k => XS.ifNo X48.here hx rfl (hb hby at_272) rfl (by decide) k) ?_
    refine own_go (B := T48.setTop (mkF m 276 #[.val (.int p0), .val (.int (11 : Int32)), .val (.ref (A 8)), .val (.int (192 : Int32)), .val (.int (192 : Int32))] [(.int (1 : Int32))])) (fun _ k => XT.iconstV X48.here hx rfl (1 : Int32) (hb hby at_275) rfl k) ?_
    refine own_go (B := T48.setTop (mkF m 280 #[.val (.int p0), .val (.int (11 : Int32)), .val (.ref (A 8)), .val (.int (192 : Int32)), .val (.int (192 : Int32))] [(.int (1 : Int32))])) (fun _ k => XS.goto X48.here hx rfl (pc0 := 276) (pc' := 280) rfl (hb hby at_276) (by decide) (by decide) k) ?_
    exact own_ret X48 hx (t := .boolean) hrt rfl (Or.inl ⟨rfl, by simp, _, rfl⟩) (hb hby at_280) hlk ⟨rfl, N48⟩ (by decide) (by decide)
  · refine own_go (B := s₁.setTop (mkF m 9 #[.val (.int p0), .val (.int (12 : Int32)), .unset, .unset, .unset] [(.int (12 : Int32))])) (fun _ k => XS.iloadN X0.here hx rfl (hb hby at_8) rfl k) ?_
    refine own_go (B := s₁.setTop (mkF m 22 #[.val (.int p0), .val (.int (12 : Int32)), .unset, .unset, .unset] [])) (fun _ k => XS.ifYes X0.here hx rfl (pc0 := 9) (pc' := 22) rfl (hb hby at_9) rfl (by decide) (by decide) (by decide) k) ?_
    refine own_go (B := s₁.setTop (mkF m 23 #[.val (.int p0), .val (.int (12 : Int32)), .unset, .unset, .unset] [(.int (12 : Int32))])) (fun _ k => XS.iloadN X0.here hx rfl (hb hby at_22) rfl k) ?_
    refine own_go (B := s₁.setTop (mkF m 24 #[.val (.int p0), .val (.int (12 : Int32)), .unset, .unset, .unset] [(.int (1 : Int32)), (.int (12 : Int32))])) (fun _ k => XT.iconstV X0.here hx rfl (1 : Int32) (hb hby at_23) rfl k) ?_
    refine own_go (B := s₁.setTop (mkF m 37 #[.val (.int p0), .val (.int (12 : Int32)), .unset, .unset, .unset] [])) (fun _ k => XS.icmpYes X0.here hx rfl (pc0 := 24) (pc' := 37) rfl (hb hby at_24) rfl (by decide) (by decide) (by decide) k) ?_
    refine own_go (B := s₁.setTop (mkF m 38 #[.val (.int p0), .val (.int (12 : Int32)), .unset, .unset, .unset] [(.int (12 : Int32))])) (fun _ k => XS.iloadN X0.here hx rfl (hb hby at_37) rfl k) ?_
    refine own_go (B := s₁.setTop (mkF m 39 #[.val (.int p0), .val (.int (12 : Int32)), .unset, .unset, .unset] [(.int (2 : Int32)), (.int (12 : Int32))])) (fun _ k => XT.iconstV X0.here hx rfl (2 : Int32) (hb hby at_38) rfl k) ?_
    refine own_go (B := s₁.setTop (mkF m 52 #[.val (.int p0), .val (.int (12 : Int32)), .unset, .unset, .unset] [])) (fun _ k => XS.icmpYes X0.here hx rfl (pc0 := 39) (pc' := 52) rfl (hb hby at_39) rfl (by decide) (by decide) (by decide) k) ?_
    refine own_go (B := s₁.setTop (mkF m 53 #[.val (.int p0), .val (.int (12 : Int32)), .unset, .unset, .unset] [(.int (12 : Int32))])) (fun _ k => XS.iloadN X0.here hx rfl (hb hby at_52) rfl k) ?_
    refine own_go (B := s₁.setTop (mkF m 54 #[.val (.int p0), .val (.int (12 : Int32)), .unset, .unset, .unset] [(.int (3 : Int32)), (.int (12 : Int32))])) (fun _ k => XT.iconstV X0.here hx rfl (3 : Int32) (hb hby at_53) rfl k) ?_
    refine own_go (B := s₁.setTop (mkF m 67 #[.val (.int p0), .val (.int (12 : Int32)), .unset, .unset, .unset] [])) (fun _ k => XS.icmpYes X0.here hx rfl (pc0 := 54) (pc' := 67) rfl (hb hby at_54) rfl (by decide) (by decide) (by decide) k) ?_
    refine own_go (B := s₁.setTop (mkF m 68 #[.val (.int p0), .val (.int (12 : Int32)), .unset, .unset, .unset] [(.int (12 : Int32))])) (fun _ k => XS.iloadN X0.here hx rfl (hb hby at_67) rfl k) ?_
    refine own_go (B := s₁.setTop (mkF m 69 #[.val (.int p0), .val (.int (12 : Int32)), .unset, .unset, .unset] [(.int (4 : Int32)), (.int (12 : Int32))])) (fun _ k => XT.iconstV X0.here hx rfl (4 : Int32) (hb hby at_68) rfl k) ?_
    refine own_go (B := s₁.setTop (mkF m 82 #[.val (.int p0), .val (.int (12 : Int32)), .unset, .unset, .unset] [])) (fun _ k => XS.icmpYes X0.here hx rfl (pc0 := 69) (pc' := 82) rfl (hb hby at_69) rfl (by decide) (by decide) (by decide) k) ?_
    refine own_go (B := s₁.setTop (mkF m 83 #[.val (.int p0), .val (.int (12 : Int32)), .unset, .unset, .unset] [(.int (12 : Int32))])) (fun _ k => XS.iloadN X0.here hx rfl (hb hby at_82) rfl k) ?_
    refine own_go (B := s₁.setTop (mkF m 84 #[.val (.int p0), .val (.int (12 : Int32)), .unset, .unset, .unset] [(.int (5 : Int32)), (.int (12 : Int32))])) (fun _ k => XT.iconstV X0.here hx rfl (5 : Int32) (hb hby at_83) rfl k) ?_
    refine own_go (B := s₁.setTop (mkF m 97 #[.val (.int p0), .val (.int (12 : Int32)), .unset, .unset, .unset] [])) (fun _ k => XS.icmpYes X0.here hx rfl (pc0 := 84) (pc' := 97) rfl (hb hby at_84) rfl (by decide) (by decide) (by decide) k) ?_
    refine own_go (B := s₁.setTop (mkF m 98 #[.val (.int p0), .val (.int (12 : Int32)), .unset, .unset, .unset] [(.int (12 : Int32))])) (fun _ k => XS.iloadN X0.here hx rfl (hb hby at_97) rfl k) ?_
    refine own_go (B := s₁.setTop (mkF m 100 #[.val (.int p0), .val (.int (12 : Int32)), .unset, .unset, .unset] [(.int (6 : Int32)), (.int (12 : Int32))])) (fun _ k => XT.bipushV X0.here hx rfl (6 : Int32) (hb hby at_98) (by decide) k) ?_
    refine own_go (B := s₁.setTop (mkF m 113 #[.val (.int p0), .val (.int (12 : Int32)), .unset, .unset, .unset] [])) (fun _ k => XS.icmpYes X0.here hx rfl (pc0 := 100) (pc' := 113) rfl (hb hby at_100) rfl (by decide) (by decide) (by decide) k) ?_
    refine own_go (B := s₁.setTop (mkF m 114 #[.val (.int p0), .val (.int (12 : Int32)), .unset, .unset, .unset] [(.int (12 : Int32))])) (fun _ k => XS.iloadN X0.here hx rfl (hb hby at_113) rfl k) ?_
    refine own_go (B := s₁.setTop (mkF m 116 #[.val (.int p0), .val (.int (12 : Int32)), .unset, .unset, .unset] [(.int (7 : Int32)), (.int (12 : Int32))])) (fun _ k => XT.bipushV X0.here hx rfl (7 : Int32) (hb hby at_114) (by decide) k) ?_
    refine own_go (B := s₁.setTop (mkF m 130 #[.val (.int p0), .val (.int (12 : Int32)), .unset, .unset, .unset] [])) (fun _ k => XS.icmpYes X0.here hx rfl (pc0 := 116) (pc' := 130) rfl (hb hby at_116) rfl (by decide) (by decide) (by decide) k) ?_
    refine own_go (B := s₁.setTop (mkF m 131 #[.val (.int p0), .val (.int (12 : Int32)), .unset, .unset, .unset] [(.int (12 : Int32))])) (fun _ k => XS.iloadN X0.here hx rfl (hb hby at_130) rfl k) ?_
    refine own_go (B := s₁.setTop (mkF m 133 #[.val (.int p0), .val (.int (12 : Int32)), .unset, .unset, .unset] [(.int (8 : Int32)), (.int (12 : Int32))])) (fun _ k => XT.bipushV X0.here hx rfl (8 : Int32) (hb hby at_131) (by decide) k) ?_
    refine own_go (B := s₁.setTop (mkF m 147 #[.val (.int p0), .val (.int (12 : Int32)), .unset, .unset, .unset] [])) (fun _ k => XS.icmpYes X0.here hx rfl (pc0 := 133) (pc' := 147) rfl (hb hby at_133) rfl (by decide) (by decide) (by decide) k) ?_
    refine own_go (B := s₁.setTop (mkF m 148 #[.val (.int p0), .val (.int (12 : Int32)), .unset, .unset, .unset] [(.int (12 : Int32))])) (fun _ k => XS.iloadN X0.here hx rfl (hb hby at_147) rfl k) ?_
    refine own_go (B := s₁.setTop (mkF m 150 #[.val (.int p0), .val (.int (12 : Int32)), .unset, .unset, .unset] [(.int (9 : Int32)), (.int (12 : Int32))])) (fun _ k => XT.bipushV X0.here hx rfl (9 : Int32) (hb hby at_148) (by decide) k) ?_
    refine own_go (B := s₁.setTop (mkF m 164 #[.val (.int p0), .val (.int (12 : Int32)), .unset, .unset, .unset] [])) (fun _ k => XS.icmpYes X0.here hx rfl (pc0 := 150) (pc' := 164) rfl (hb hby at_150) rfl (by decide) (by decide) (by decide) k) ?_
    refine own_go (B := s₁.setTop (mkF m 165 #[.val (.int p0), .val (.int (12 : Int32)), .unset, .unset, .unset] [(.int (12 : Int32))])) (fun _ k => XS.iloadN X0.here hx rfl (hb hby at_164) rfl k) ?_
    refine own_go (B := s₁.setTop (mkF m 167 #[.val (.int p0), .val (.int (12 : Int32)), .unset, .unset, .unset] [(.int (10 : Int32)), (.int (12 : Int32))])) (fun _ k => XT.bipushV X0.here hx rfl (10 : Int32) (hb hby at_165) (by decide) k) ?_
    refine own_go (B := s₁.setTop (mkF m 181 #[.val (.int p0), .val (.int (12 : Int32)), .unset, .unset, .unset] [])) (fun _ k => XS.icmpYes X0.here hx rfl (pc0 := 167) (pc' := 181) rfl (hb hby at_167) rfl (by decide) (by decide) (by decide) k) ?_
    refine own_go (B := s₁.setTop (mkF m 182 #[.val (.int p0), .val (.int (12 : Int32)), .unset, .unset, .unset] [(.int (12 : Int32))])) (fun _ k => XS.iloadN X0.here hx rfl (hb hby at_181) rfl k) ?_
    refine own_go (B := s₁.setTop (mkF m 184 #[.val (.int p0), .val (.int (12 : Int32)), .unset, .unset, .unset] [(.int (11 : Int32)), (.int (12 : Int32))])) (fun _ k => XT.bipushV X0.here hx rfl (11 : Int32) (hb hby at_182) (by decide) k) ?_
    refine own_go (B := s₁.setTop (mkF m 198 #[.val (.int p0), .val (.int (12 : Int32)), .unset, .unset, .unset] [])) (fun _ k => XS.icmpYes X0.here hx rfl (pc0 := 184) (pc' := 198) rfl (hb hby at_184) rfl (by decide) (by decide) (by decide) k) ?_
    refine own_go (B := s₁.setTop (mkF m 199 #[.val (.int p0), .val (.int (12 : Int32)), .unset, .unset, .unset] [(.int (12 : Int32))])) (fun _ k => XS.iloadN X0.here hx rfl (hb hby at_198) rfl k) ?_
    refine own_go (B := s₁.setTop (mkF m 201 #[.val (.int p0), .val (.int (12 : Int32)), .unset, .unset, .unset] [(.int (12 : Int32)), (.int (12 : Int32))])) (fun _ k => XT.bipushV X0.here hx rfl (12 : Int32) (hb hby at_199) (by decide) k) ?_
    refine own_go (B := s₁.setTop (mkF m 204 #[.val (.int p0), .val (.int (12 : Int32)), .unset, .unset, .unset] [])) (fun _ k => XS.icmpNo X0.here hx rfl (hb hby at_201) rfl (by decide) k) ?_
    obtain ⟨T49, X49, e49, st49⟩ := getS2 X0 hx hZ hown (host := "") (Or.inl (hw _ (List.mem_of_getElem? (i := 45) rfl))) Via.refl e0 (S_PINGRESP.ext x0) (g := (mkF m 204 #[.val (.int p0), .val (.int (12 : Int32)), .unset, .unset, .unset] [])) rfl (hb hby at_204)
    refine own_go (B := T49.setTop (mkF m 207 #[.val (.int p0), .val (.int (12 : Int32)), .unset, .unset, .unset] [(.ref (A 12))])) st49 ?_
    refine own_go (B := T49.setTop (mkF m 208 #[.val (.int p0), .val (.int (12 : Int32)), .val (.ref (A 12)), .unset, .unset] [])) (fun _ k => XS.astoreN X49.here hx rfl (hb hby at_207) rfl rfl (l' := #[.val (.int p0), .val (.int (12 : Int32)), .val (.ref (A 12)), .unset, .unset]) rfl k) ?_
    refine own_go (B := T49.setTop (mkF m 211 #[.val (.int p0), .val (.int (12 : Int32)), .val (.ref (A 12)), .unset, .unset] [(.int (208 : Int32))])) (fun _ k => XT.sipushV X49.here hx rfl (208 : Int32) (hb hby at_208) (by decide) k) ?_
    refine own_go (B := T49.setTop (mkF m 212 #[.val (.int p0), .val (.int (12 : Int32)), .val (.ref (A 12)), .val (.int (208 : Int32)), .unset] [])) (fun _ k => XS.istoreN X49.here hx rfl (hb hby at_211) rfl (l' := #[.val (.int p0), .val (.int (12 : Int32)), .val (.ref (A 12)), .val (.int (208 : Int32)), .unset]) rfl k) ?_
    refine own_go (B := T49.setTop (mkF m 240 #[.val (.int p0), .val (.int (12 : Int32)), .val (.ref (A 12)), .val (.int (208 : Int32)), .unset] [])) (fun _ k => XS.goto X49.here hx rfl (pc0 := 212) (pc' := 240) rfl (hb hby at_212) (by decide) (by decide) k) ?_
    refine own_go (B := T49.setTop (mkF m 241 #[.val (.int p0), .val (.int (12 : Int32)), .val (.ref (A 12)), .val (.int (208 : Int32)), .unset] [(.ref (A 12))])) (fun _ k => XS.aloadN X49.here hx rfl (hb hby at_240) rfl rfl k) ?_
    obtain ⟨cq50, kq50, q50a, q50b, q50c⟩ := isOf hZ e49 (E_PINGRESP.ext x0)
    obtain ⟨_, _, ⟨T50, L50, k50, n50⟩, -, X50, ⟨Lc50, hQ50, l50, y50, z50⟩, st50⟩ := X49.virtualBack hx (y := (⟨"com/example/ferrybus/ferrybus/codec/PacketType", "firstByte", "()I"⟩ : MethodName)) (z := (⟨"com/example/ferrybus/ferrybus/codec/PacketType", "firstByte", "()I"⟩ : MethodName)) hown (mvT hZ (hw _ (List.mem_of_getElem? (i := 4) rfl))) (mvT hZ (hw _ (List.mem_of_getElem? (i := 5) rfl))) (notFace_of_selects (args := #[]) (mvT hZ (hw _ (List.mem_of_getElem? (i := 7) rfl)))) (mvT hZ (hw _ (List.mem_of_getElem? (i := 7) rfl))) (mvT hZ (hw _ (List.mem_of_getElem? (i := 6) rfl))) (by decide) (own_back (W := 0) (rm1_12 l Z a0 hw []  A hW h0 x0 ) hZ (hw _ (List.mem_of_getElem? (i := 8) rfl)) (hw _ (List.mem_of_getElem? (i := 2) rfl)) (by decide) (by decide)) q50a q50c (g := (mkF m 241 #[.val (.int p0), .val (.int (12 : Int32)), .val (.ref (A 12)), .val (.int (208 : Int32)), .unset] [(.ref (A 12))])) rfl (by rw [hml]; rfl) (Steps.refl _) (argsL := []) (rest := []) (lenOf pd_0 rfl) rfl (by show 2 * 0 + _ ≤ _; exact Nat.le_of_eq rfl) (hb hby at_241) (fun _ _ => ⟨rfl, e49, (by decide : 0 + 0 ≤ _), (by decide : 0 + 0 ≤ _)⟩)
    dsimp only [Pt.U, Pt.locs, Pt.cells, Pt.slots] at X50 l50 y50 z50 st50 hQ50
    subst l50 y50 z50
    obtain ⟨rfl, N50q, e50⟩ := hQ50
    have N50 := Fr.app N0 N50q
    refine own_go (B := T50.setTop (mkF m 244 #[.val (.int p0), .val (.int (12 : Int32)), .val (.ref (A 12)), .val (.int (208 : Int32)), .unset] [(.int (208 : Int32))])) (fun _ k => st50.trans k) ?_
    refine own_go (B := T50.setTop (mkF m 246 #[.val (.int p0), .val (.int (12 : Int32)), .val (.ref (A 12)), .val (.int (208 : Int32)), .val (.int (208 : Int32))] [])) (fun _ k => XS.istore X50.here hx rfl (hb hby at_244) rfl (l' := #[.val (.int p0), .val (.int (12 : Int32)), .val (.ref (A 12)), .val (.int (208 : Int32)), .val (.int (208 : Int32))]) rfl k) ?_
    refine own_go (B := T50.setTop (mkF m 248 #[.val (.int p0), .val (.int (12 : Int32)), .val (.ref (A 12)), .val (.int (208 : Int32)), .val (.int (208 : Int32))] [(.int (208 : Int32))])) (fun _ k => XS.iload X50.here hx rfl (hb hby at_246) rfl k) ?_
    refine own_go (B := T50.setTop (mkF m 249 #[.val (.int p0), .val (.int (12 : Int32)), .val (.ref (A 12)), .val (.int (208 : Int32)), .val (.int (208 : Int32))] [(.int (208 : Int32)), (.int (208 : Int32))])) (fun _ k => XS.iloadN X50.here hx rfl (hb hby at_248) rfl k) ?_
    refine own_go (B := T50.setTop (mkF m 254 #[.val (.int p0), .val (.int (12 : Int32)), .val (.ref (A 12)), .val (.int (208 : Int32)), .val (.int (208 : Int32))] [])) (fun _ k => XS.icmpYes X50.here hx rfl (pc0 := 249) (pc' := 254) rfl (hb hby at_249) rfl (by decide) (by decide) (by decide) k) ?_
    refine own_go (B := T50.setTop (mkF m 256 #[.val (.int p0), .val (.int (12 : Int32)), .val (.ref (A 12)), .val (.int (208 : Int32)), .val (.int (208 : Int32))] [(.int (208 : Int32))])) (fun _ k => XS.iload X50.here hx rfl (hb hby at_254) rfl k) ?_
    obtain ⟨_, _, ⟨T51, L51, k51, n51⟩, -, X51, ⟨Lc51, hQ51, l51, y51, z51⟩, st51⟩ := Jvm.LawKit.callS X50 hx (y := (⟨"com/example/ferrybus/ferrybus/codec/PacketType", "of", "(I)Lcom/example/ferrybus/ferrybus/codec/PacketType;"⟩ : MethodName)) hown (mvT hZ (hw _ (List.mem_of_getElem? (i := 13) rfl))) (mvT hZ (hw _ (List.mem_of_getElem? (i := 14) rfl))) (mvT hZ (hw _ (List.mem_of_getElem? (i := 2) rfl))) (mvT hZ (hw _ (List.mem_of_getElem? (i := 15) rfl))) (by decide) (own_back (W := 0) (rm2_12 l Z a0 hw []  A hW h0 x0 ) hZ (hw _ (List.mem_of_getElem? (i := 15) rfl)) (hw _ (List.mem_of_getElem? (i := 2) rfl)) (by decide) (by decide)) (g := (mkF m 256 #[.val (.int p0), .val (.int (12 : Int32)), .val (.ref (A 12)), .val (.int (208 : Int32)), .val (.int (208 : Int32))] [(.int (208 : Int32))])) rfl (by rw [hml]; rfl) (argsL := [(.int (208 : Int32))]) (rest := []) (lenOf pd_1 rfl) rfl (by show 2 * 0 + _ ≤ _; exact Nat.le_of_eq rfl) (hb hby at_256) (fun _ _ => ⟨rfl, e50, (by decide : 0 + 0 ≤ _), (by decide : 0 + 0 ≤ _)⟩)
    dsimp only [Pt.U, Pt.locs, Pt.cells, Pt.slots] at X51 l51 y51 z51 st51 hQ51
    subst l51 y51 z51
    obtain ⟨rfl, N51q, e51⟩ := hQ51
    have N51 := Fr.app N50 N51q
    refine own_go (B := T51.setTop (mkF m 259 #[.val (.int p0), .val (.int (12 : Int32)), .val (.ref (A 12)), .val (.int (208 : Int32)), .val (.int (208 : Int32))] [(.ref (A 12))])) st51 ?_
    refine own_go (B := T51.setTop (mkF m 260 #[.val (.int p0), .val (.int (12 : Int32)), .val (.ref (A 12)), .val (.int (208 : Int32)), .val (.int (208 : Int32))] [(.ref (A 12)), (.ref (A 12))])) (fun _ k => XS.aloadN X51.here hx rfl (hb hby at_259) rfl rfl k) ?_
    refine own_go (B := T51.setTop (mkF m 263 #[.val (.int p0), .val (.int (12 : Int32)), .val (.ref (A 12)), .val (.int (208 : Int32)), .val (.int (208 : Int32))] [])) (fun _ k => Jvm.RoadKit.acmp (g := (mkF m 260 #[.val (.int p0), .val (.int (12 : Int32)), .val (.ref (A 12)), .val (.int (208 : Int32)), .val (.int (208 : Int32))] [(.ref (A 12)), (.ref (A 12))])) X51 hx rfl rfl rfl (pc0 := 260) (pc' := 263) (same := true) rfl (hb hby at_260) rfl (decide_eq_true rfl) (by decide) (by decide) k) ?_
    refine own_go (B := T51.setTop (mkF m 264 #[.val (.int p0), .val (.int (12 : Int32)), .val (.ref (A 12)), .val (.int (208 : Int32)), .val (.int (208 : Int32))] [(.ref (A 12))])) (fun _ k => XS.aloadN X51.here hx rfl (hb hby at_263) rfl rfl k) ?_
    refine own_go (B := T51.setTop (mkF m 266 #[.val (.int p0), .val (.int (12 : Int32)), .val (.ref (A 12)), .val (.int (208 : Int32)), .val (.int (208 : Int32))] [(.int (208 : Int32)), (.ref (A 12))])) (fun _ k => XS.iload X51.here hx rfl (hb hby at_264) rfl k) ?_
    refine own_go (B := T51.setTop (mkF m 268 #[.val (.int p0), .val (.int (12 : Int32)), .val (.ref (A 12)), .val (.int (208 : Int32)), .val (.int (208 : Int32))] [(.int (15 : Int32)), (.int (208 : Int32)), (.ref (A 12))])) (fun _ k => XT.bipushV X51.here hx rfl (15 : Int32) (hb hby at_266) (by decide) k) ?_
    refine own_go (B := T51.setTop (mkF m 269 #[.val (.int p0), .val (.int (12 : Int32)), .val (.ref (A 12)), .val (.int (208 : Int32)), .val (.int (208 : Int32))] [(.int ((208 : Int32) &&& (15 : Int32))), (.ref (A 12))])) (fun _ k => XS.iand X51.here hx rfl (hb hby at_268) rfl k) ?_
    obtain ⟨cq52, kq52, q52a, q52b, q52c⟩ := isOf hZ e51 (E_PINGRESP.ext x0)
    obtain ⟨_, _, ⟨T52, L52, k52, n52⟩, -, X52, ⟨Lc52, hQ52, l52, y52, z52⟩, st52⟩ := X51.virtualBack hx (y := (⟨"com/example/ferrybus/ferrybus/codec/PacketType", "allows", "(I)Z"⟩ : MethodName)) (z := (⟨"com/example/ferrybus/ferrybus/codec/PacketType", "allows", "(I)Z"⟩ : MethodName)) hown (mvT hZ (hw _ (List.mem_of_getElem? (i := 18) rfl))) (mvT hZ (hw _ (List.mem_of_getElem? (i := 19) rfl))) (notFace_of_selects (args := #[]) (mvT hZ (hw _ (List.mem_of_getElem? (i := 21) rfl)))) (mvT hZ (hw _ (List.mem_of_getElem? (i := 21) rfl))) (mvT hZ (hw _ (List.mem_of_getElem? (i := 20) rfl))) (by decide) (own_back (W := 0) (rm3_12 l Z a0 hw []  A hW h0 x0 ) hZ (hw _ (List.mem_of_getElem? (i := 22) rfl)) (hw _ (List.mem_of_getElem? (i := 2) rfl)) (by decide) (by decide)) q52a q52c (g := (mkF m 269 #[.val (.int p0), .val (.int (12 : Int32)), .val (.ref (A 12)), .val (.int (208 : Int32)), .val (.int (208 : Int32))] [(.int ((208 : Int32) &&& (15 : Int32))), (.ref (A 12))])) rfl (by rw [hml]; rfl) (Steps.refl _) (argsL := [(.int ((208 : Int32) &&& (15 : Int32)))]) (rest := []) (lenOf pd_2 rfl) rfl (by show 2 * 0 + _ ≤ _; exact Nat.le_of_eq rfl) (hb hby at_269) (fun _ _ => ⟨rfl, e51, (by decide : 0 + 0 ≤ _), (by decide : 0 + 0 ≤ _)⟩)
    dsimp only [Pt.U, Pt.locs, Pt.cells, Pt.slots] at X52 l52 y52 z52 st52 hQ52
    subst l52 y52 z52
    obtain ⟨rfl, N52q, e52⟩ := hQ52
    have N52 := Fr.app N51 N52q
    refine own_go (B := T52.setTop (mkF m 272 #[.val (.int p0), .val (.int (12 : Int32)), .val (.ref (A 12)), .val (.int (208 : Int32)), .val (.int (208 : Int32))] [(.int (1 : Int32))])) (fun _ k => st52.trans k) ?_
    refine own_go (B := T52.setTop (mkF m 275 #[.val (.int p0), .val (.int (12 : Int32)), .val (.ref (A 12)), .val (.int (208 : Int32)), .val (.int (208 : Int32))] [])) (fun _ k => XS.ifNo X52.here hx rfl (hb hby at_272) rfl (by decide) k) ?_
    refine own_go (B := T52.setTop (mkF m 276 #[.val (.int p0), .val (.int (12 : Int32)), .val (.ref (A 12)), .val (.int (208 : Int32)), .val (.int (208 : Int32))] [(.int (1 : Int32))])) (fun _ k => XT.iconstV X52.here hx rfl (1 : Int32) (hb hby at_275) rfl k) ?_
    refine own_go (B := T52.setTop (mkF m 280 #[.val (.int p0), .val (.int (12 : Int32)), .val (.ref (A 12)), .val (.int (208 : Int32)), .val (.int (208 : Int32))] [(.int (1 : Int32))])) (fun _ k => XS.goto X52.here hx rfl (pc0 := 276) (pc' := 280) rfl (hb hby at_276) (by decide) (by decide) k) ?_
    exact own_ret X52 hx (t := .boolean) hrt rfl (Or.inl ⟨rfl, by simp, _, rfl⟩) (hb hby at_280) hlk ⟨rfl, N52⟩ (by decide) (by decide)
  · refine own_go (B := s₁.setTop (mkF m 9 #[.val (.int p0), .val (.int (13 : Int32)), .unset, .unset, .unset] [(.int (13 : Int32))])) (fun _ k => XS.iloadN X0.here hx rfl (hb hby at_8) rfl k) ?_
    refine own_go (B := s₁.setTop (mkF m 22 #[.val (.int p0), .val (.int (13 : Int32)), .unset, .unset, .unset] [])) (fun _ k => XS.ifYes X0.here hx rfl (pc0 := 9) (pc' := 22) rfl (hb hby at_9) rfl (by decide) (by decide) (by decide) k) ?_
    refine own_go (B := s₁.setTop (mkF m 23 #[.val (.int p0), .val (.int (13 : Int32)), .unset, .unset, .unset] [(.int (13 : Int32))])) (fun _ k => XS.iloadN X0.here hx rfl (hb hby at_22) rfl k) ?_
    refine own_go (B := s₁.setTop (mkF m 24 #[.val (.int p0), .val (.int (13 : Int32)), .unset, .unset, .unset] [(.int (1 : Int32)), (.int (13 : Int32))])) (fun _ k => XT.iconstV X0.here hx rfl (1 : Int32) (hb hby at_23) rfl k) ?_
    refine own_go (B := s₁.setTop (mkF m 37 #[.val (.int p0), .val (.int (13 : Int32)), .unset, .unset, .unset] [])) (fun _ k => XS.icmpYes X0.here hx rfl (pc0 := 24) (pc' := 37) rfl (hb hby at_24) rfl (by decide) (by decide) (by decide) k) ?_
    refine own_go (B := s₁.setTop (mkF m 38 #[.val (.int p0), .val (.int (13 : Int32)), .unset, .unset, .unset] [(.int (13 : Int32))])) (fun _ k => XS.iloadN X0.here hx rfl (hb hby at_37) rfl k) ?_
    refine own_go (B := s₁.setTop (mkF m 39 #[.val (.int p0), .val (.int (13 : Int32)), .unset, .unset, .unset] [(.int (2 : Int32)), (.int (13 : Int32))])) (fun _ k => XT.iconstV X0.here hx rfl (2 : Int32) (hb hby at_38) rfl k) ?_
    refine own_go (B := s₁.setTop (mkF m 52 #[.val (.int p0), .val (.int (13 : Int32)), .unset, .unset, .unset] [])) (fun _ k => XS.icmpYes X0.here hx rfl (pc0 := 39) (pc' := 52) rfl (hb hby at_39) rfl (by decide) (by decide) (by decide) k) ?_
    refine own_go (B := s₁.setTop (mkF m 53 #[.val (.int p0), .val (.int (13 : Int32)), .unset, .unset, .unset] [(.int (13 : Int32))])) (fun _ k => XS.iloadN X0.here hx rfl (hb hby at_52) rfl k) ?_
    refine own_go (B := s₁.setTop (mkF m 54 #[.val (.int p0), .val (.int (13 : Int32)), .unset, .unset, .unset] [(.int (3 : Int32)), (.int (13 : Int32))])) (fun _ k => XT.iconstV X0.here hx rfl (3 : Int32) (hb hby at_53) rfl k) ?_
    refine own_go (B := s₁.setTop (mkF m 67 #[.val (.int p0), .val (.int (13 : Int32)), .unset, .unset, .unset] [])) (fun _ k => XS.icmpYes X0.here hx rfl (pc0 := 54) (pc' := 67) rfl (hb hby at_54) rfl (by decide) (by decide) (by decide) k) ?_
    refine own_go (B := s₁.setTop (mkF m 68 #[.val (.int p0), .val (.int (13 : Int32)), .unset, .unset, .unset] [(.int (13 : Int32))])) (fun _ k => XS.iloadN X0.here hx rfl (hb hby at_67) rfl k) ?_
    refine own_go (B := s₁.setTop (mkF m 69 #[.val (.int p0), .val (.int (13 : Int32)), .unset, .unset, .unset] [(.int (4 : Int32)), (.int (13 : Int32))])) (fun _ k => XT.iconstV X0.here hx rfl (4 : Int32) (hb hby at_68) rfl k) ?_
    refine own_go (B := s₁.setTop (mkF m 82 #[.val (.int p0), .val (.int (13 : Int32)), .unset, .unset, .unset] [])) (fun _ k => XS.icmpYes X0.here hx rfl (pc0 := 69) (pc' := 82) rfl (hb hby at_69) rfl (by decide) (by decide) (by decide) k) ?_
    refine own_go (B := s₁.setTop (mkF m 83 #[.val (.int p0), .val (.int (13 : Int32)), .unset, .unset, .unset] [(.int (13 : Int32))])) (fun _ k => XS.iloadN X0.here hx rfl (hb hby at_82) rfl k) ?_
    refine own_go (B := s₁.setTop (mkF m 84 #[.val (.int p0), .val (.int (13 : Int32)), .unset, .unset, .unset] [(.int (5 : Int32)), (.int (13 : Int32))])) (fun _ k => XT.iconstV X0.here hx rfl (5 : Int32) (hb hby at_83) rfl k) ?_
    refine own_go (B := s₁.setTop (mkF m 97 #[.val (.int p0), .val (.int (13 : Int32)), .unset, .unset, .unset] [])) (fun _ k => XS.icmpYes X0.here hx rfl (pc0 := 84) (pc' := 97) rfl (hb hby at_84) rfl (by decide) (by decide) (by decide) k) ?_
    refine own_go (B := s₁.setTop (mkF m 98 #[.val (.int p0), .val (.int (13 : Int32)), .unset, .unset, .unset] [(.int (13 : Int32))])) (fun _ k => XS.iloadN X0.here hx rfl (hb hby at_97) rfl k) ?_
    refine own_go (B := s₁.setTop (mkF m 100 #[.val (.int p0), .val (.int (13 : Int32)), .unset, .unset, .unset] [(.int (6 : Int32)), (.int (13 : Int32))])) (fun _ k => XT.bipushV X0.here hx rfl (6 : Int32) (hb hby at_98) (by decide) k) ?_
    refine own_go (B := s₁.setTop (mkF m 113 #[.val (.int p0), .val (.int (13 : Int32)), .unset, .unset, .unset] [])) (fun _ k => XS.icmpYes X0.here hx rfl (pc0 := 100) (pc' := 113) rfl (hb hby at_100) rfl (by decide) (by decide) (by decide) k) ?_
    refine own_go (B := s₁.setTop (mkF m 114 #[.val (.int p0), .val (.int (13 : Int32)), .unset, .unset, .unset] [(.int (13 : Int32))])) (fun _ k => XS.iloadN X0.here hx rfl (hb hby at_113) rfl k) ?_
    refine own_go (B := s₁.setTop (mkF m 116 #[.val (.int p0), .val (.int (13 : Int32)), .unset, .unset, .unset] [(.int (7 : Int32)), (.int (13 : Int32))])) (fun _ k => XT.bipushV X0.here hx rfl (7 : Int32) (hb hby at_114) (by decide) k) ?_
    refine own_go (B := s₁.setTop (mkF m 130 #[.val (.int p0), .val (.int (13 : Int32)), .unset, .unset, .unset] [])) (fun _ k => XS.icmpYes X0.here hx rfl (pc0 := 116) (pc' := 130) rfl (hb hby at_116) rfl (by decide) (by decide) (by decide) k) ?_
    refine own_go (B := s₁.setTop (mkF m 131 #[.val (.int p0), .val (.int (13 : Int32)), .unset, .unset, .unset] [(.int (13 : Int32))])) (fun _ k => XS.iloadN X0.here hx rfl (hb hby at_130) rfl k) ?_
    refine own_go (B := s₁.setTop (mkF m 133 #[.val (.int p0), .val (.int (13 : Int32)), .unset, .unset, .unset] [(.int (8 : Int32)), (.int (13 : Int32))])) (fun _ k => XT.bipushV X0.here hx rfl (8 : Int32) (hb hby at_131) (by decide) k) ?_
    refine own_go (B := s₁.setTop (mkF m 147 #[.val (.int p0), .val (.int (13 : Int32)), .unset, .unset, .unset] [])) (fun _ k => XS.icmpYes X0.here hx rfl (pc0 := 133) (pc' := 147) rfl (hb hby at_133) rfl (by decide) (by decide) (by decide) k) ?_
    refine own_go (B := s₁.setTop (mkF m 148 #[.val (.int p0), .val (.int (13 : Int32)), .unset, .unset, .unset] [(.int (13 : Int32))])) (fun _ k => XS.iloadN X0.here hx rfl (hb hby at_147) rfl k) ?_
    refine own_go (B := s₁.setTop (mkF m 150 #[.val (.int p0), .val (.int (13 : Int32)), .unset, .unset, .unset] [(.int (9 : Int32)), (.int (13 : Int32))])) (fun _ k => XT.bipushV X0.here hx rfl (9 : Int32) (hb hby at_148) (by decide) k) ?_
    refine own_go (B := s₁.setTop (mkF m 164 #[.val (.int p0), .val (.int (13 : Int32)), .unset, .unset, .unset] [])) (fun _ k => XS.icmpYes X0.here hx rfl (pc0 := 150) (pc' := 164) rfl (hb hby at_150) rfl (by decide) (by decide) (by decide) k) ?_
    refine own_go (B := s₁.setTop (mkF m 165 #[.val (.int p0), .val (.int (13 : Int32)), .unset, .unset, .unset] [(.int (13 : Int32))])) (fun _ k => XS.iloadN X0.here hx rfl (hb hby at_164) rfl k) ?_
    refine own_go (B := s₁.setTop (mkF m 167 #[.val (.int p0), .val (.int (13 : Int32)), .unset, .unset, .unset] [(.int (10 : Int32)), (.int (13 : Int32))])) (fun _ k => XT.bipushV X0.here hx rfl (10 : Int32) (hb hby at_165) (by decide) k) ?_
    refine own_go (B := s₁.setTop (mkF m 181 #[.val (.int p0), .val (.int (13 : Int32)), .unset, .unset, .unset] [])) (fun _ k => XS.icmpYes X0.here hx rfl (pc0 := 167) (pc' := 181) rfl (hb hby at_167) rfl (by decide) (by decide) (by decide) k) ?_
    refine own_go (B := s₁.setTop (mkF m 182 #[.val (.int p0), .val (.int (13 : Int32)), .unset, .unset, .unset] [(.int (13 : Int32))])) (fun _ k => XS.iloadN X0.here hx rfl (hb hby at_181) rfl k) ?_
    refine own_go (B := s₁.setTop (mkF m 184 #[.val (.int p0), .val (.int (13 : Int32)), .unset, .unset, .unset] [(.int (11 : Int32)), (.int (13 : Int32))])) (fun _ k => XT.bipushV X0.here hx rfl (11 : Int32) (hb hby at_182) (by decide) k) ?_
    refine own_go (B := s₁.setTop (mkF m 198 #[.val (.int p0), .val (.int (13 : Int32)), .unset, .unset, .unset] [])) (fun _ k => XS.icmpYes X0.here hx rfl (pc0 := 184) (pc' := 198) rfl (hb hby at_184) rfl (by decide) (by decide) (by decide) k) ?_
    refine own_go (B := s₁.setTop (mkF m 199 #[.val (.int p0), .val (.int (13 : Int32)), .unset, .unset, .unset] [(.int (13 : Int32))])) (fun _ k => XS.iloadN X0.here hx rfl (hb hby at_198) rfl k) ?_
    refine own_go (B := s₁.setTop (mkF m 201 #[.val (.int p0), .val (.int (13 : Int32)), .unset, .unset, .unset] [(.int (12 : Int32)), (.int (13 : Int32))])) (fun _ k => XT.bipushV X0.here hx rfl (12 : Int32) (hb hby at_199) (by decide) k) ?_
    refine own_go (B := s₁.setTop (mkF m 215 #[.val (.int p0), .val (.int (13 : Int32)), .unset, .unset, .unset] [])) (fun _ k => XS.icmpYes X0.here hx rfl (pc0 := 201) (pc' := 215) rfl (hb hby at_201) rfl (by decide) (by decide) (by decide) k) ?_
    refine own_go (B := s₁.setTop (mkF m 216 #[.val (.int p0), .val (.int (13 : Int32)), .unset, .unset, .unset] [(.int (13 : Int32))])) (fun _ k => XS.iloadN X0.here hx rfl (hb hby at_215) rfl k) ?_
    refine own_go (B := s₁.setTop (mkF m 218 #[.val (.int p0), .val (.int (13 : Int32)), .unset, .unset, .unset] [(.int (13 : Int32)), (.int (13 : Int32))])) (fun _ k => XT.bipushV X0.here hx rfl (13 : Int32) (hb hby at_216) (by decide) k) ?_
    refine own_go (B := s₁.setTop (mkF m 221 #[.val (.int p0), .val (.int (13 : Int32)), .unset, .unset, .unset] [])) (fun _ k => XS.icmpNo X0.here hx rfl (hb hby at_218) rfl (by decide) k) ?_
    obtain ⟨T53, X53, e53, st53⟩ := getS2 X0 hx hZ hown (host := "") (Or.inl (hw _ (List.mem_of_getElem? (i := 27) rfl))) Via.refl e0 (S_DISCONNECT.ext x0) (g := (mkF m 221 #[.val (.int p0), .val (.int (13 : Int32)), .unset, .unset, .unset] [])) rfl (hb hby at_221)
    refine own_go (B := T53.setTop (mkF m 224 #[.val (.int p0), .val (.int (13 : Int32)), .unset, .unset, .unset] [(.ref (A 3))])) st53 ?_
    refine own_go (B := T53.setTop (mkF m 225 #[.val (.int p0), .val (.int (13 : Int32)), .val (.ref (A 3)), .unset, .unset] [])) (fun _ k => XS.astoreN X53.here hx rfl (hb hby at_224) rfl rfl (l' := #[.val (.int p0), .val (.int (13 : Int32)), .val (.ref (A 3)), .unset, .unset]) rfl k) ?_
    refine own_go (B := T53.setTop (mkF m 228 #[.val (.int p0), .val (.int (13 : Int32)), .val (.ref (A 3)), .unset, .unset] [(.int (224 : Int32))])) (fun _ k => XT.sipushV X53.here hx rfl (224 : Int32) (hb hby at_225) (by decide) k) ?_
    refine own_go (B := T53.setTop (mkF m 229 #[.val (.int p0), .val (.int (13 : Int32)), .val (.ref (A 3)), .val (.int (224 : Int32)), .unset] [])) (fun _ k => XS.istoreN X53.here hx rfl (hb hby at_228) rfl (l' := #[.val (.int p0), .val (.int (13 : Int32)), .val (.ref (A 3)), .val (.int (224 : Int32)), .unset]) rfl k) ?_
    refine own_go (B := T53.setTop (mkF m 240 #[.val (.int p0), .val (.int (13 : Int32)), .val (.ref (A 3)), .val (.int (224 : Int32)), .unset] [])) (fun _ k => XS.goto X53.here hx rfl (pc0 := 229) (pc' := 240) rfl (hb hby at_229) (by decide) (by decide) k) ?_
    refine own_go (B := T53.setTop (mkF m 241 #[.val (.int p0), .val (.int (13 : Int32)), .val (.ref (A 3)), .val (.int (224 : Int32)), .unset] [(.ref (A 3))])) (fun _ k => XS.aloadN X53.here hx rfl (hb hby at_240) rfl rfl k) ?_
    obtain ⟨cq54, kq54, q54a, q54b, q54c⟩ := isOf hZ e53 (E_DISCONNECT.ext x0)
    obtain ⟨_, _, ⟨T54, L54, k54, n54⟩, -, X54, ⟨Lc54, hQ54, l54, y54, z54⟩, st54⟩ := X53.virtualBack hx (y := (⟨"com/example/ferrybus/ferrybus/codec/PacketType", "firstByte", "()I"⟩ : MethodName)) (z := (⟨"com/example/ferrybus/ferrybus/codec/PacketType", "firstByte", "()I"⟩ : MethodName)) hown (mvT hZ (hw _ (List.mem_of_getElem? (i := 4) rfl))) (mvT hZ (hw _ (List.mem_of_getElem? (i := 5) rfl))) (notFace_of_selects (args := #[]) (mvT hZ (hw _ (List.mem_of_getElem? (i := 7) rfl)))) (mvT hZ (hw _ (List.mem_of_getElem? (i := 7) rfl))) (mvT hZ (hw _ (List.mem_of_getElem? (i := 6) rfl))) (by decide) (own_back (W := 0) (rm1_13 l Z a0 hw []  A hW h0 x0 ) hZ (hw _ (List.mem_of_getElem? (i := 8) rfl)) (hw _ (List.mem_of_getElem? (i := 2) rfl)) (by decide) (by decide)) q54a q54c (g := (mkF m 241 #[.val (.int p0), .val (.int (13 : Int32)), .val (.ref (A 3)), .val (.int (224 : Int32)), .unset] [(.ref (A 3))])) rfl (by rw [hml]; rfl) (Steps.refl _) (argsL := []) (rest := []) (lenOf pd_0 rfl) rfl (by show 2 * 0 + _ ≤ _; exact Nat.le_of_eq rfl) (hb hby at_241) (fun _ _ => ⟨rfl, e53, (by decide : 0 + 0 ≤ _), (by decide : 0 + 0 ≤ _)⟩)
    dsimp only [Pt.U, Pt.locs, Pt.cells, Pt.slots] at X54 l54 y54 z54 st54 hQ54
    subst l54 y54 z54
    obtain ⟨rfl, N54q, e54⟩ := hQ54
    have N54 := Fr.app N0 N54q
    refine own_go (B := T54.setTop (mkF m 244 #[.val (.int p0), .val (.int (13 : Int32)), .val (.ref (A 3)), .val (.int (224 : Int32)), .unset] [(.int (224 : Int32))])) (fun _ k => st54.trans k) ?_
    refine own_go (B := T54.setTop (mkF m 246 #[.val (.int p0), .val (.int (13 : Int32)), .val (.ref (A 3)), .val (.int (224 : Int32)), .val (.int (224 : Int32))] [])) (fun _ k => XS.istore X54.here hx rfl (hb hby at_244) rfl (l' := #[.val (.int p0), .val (.int (13 : Int32)), .val (.ref (A 3)), .val (.int (224 : Int32)), .val (.int (224 : Int32))]) rfl k) ?_
    refine own_go (B := T54.setTop (mkF m 248 #[.val (.int p0), .val (.int (13 : Int32)), .val (.ref (A 3)), .val (.int (224 : Int32)), .val (.int (224 : Int32))] [(.int (224 : Int32))])) (fun _ k => XS.iload X54.here hx rfl (hb hby at_246) rfl k) ?_
    refine own_go (B := T54.setTop (mkF m 249 #[.val (.int p0), .val (.int (13 : Int32)), .val (.ref (A 3)), .val (.int (224 : Int32)), .val (.int (224 : Int32))] [(.int (224 : Int32)), (.int (224 : Int32))])) (fun _ k => XS.iloadN X54.here hx rfl (hb hby at_248) rfl k) ?_
    refine own_go (B := T54.setTop (mkF m 254 #[.val (.int p0), .val (.int (13 : Int32)), .val (.ref (A 3)), .val (.int (224 : Int32)), .val (.int (224 : Int32))] [])) (fun _ k => XS.icmpYes X54.here hx rfl (pc0 := 249) (pc' := 254) rfl (hb hby at_249) rfl (by decide) (by decide) (by decide) k) ?_
    refine own_go (B := T54.setTop (mkF m 256 #[.val (.int p0), .val (.int (13 : Int32)), .val (.ref (A 3)), .val (.int (224 : Int32)), .val (.int (224 : Int32))] [(.int (224 : Int32))])) (fun _ k => XS.iload X54.here hx rfl (hb hby at_254) rfl k) ?_
    obtain ⟨_, _, ⟨T55, L55, k55, n55⟩, -, X55, ⟨Lc55, hQ55, l55, y55, z55⟩, st55⟩ := Jvm.LawKit.callS X54 hx (y := (⟨"com/example/ferrybus/ferrybus/codec/PacketType", "of", "(I)Lcom/example/ferrybus/ferrybus/codec/PacketType;"⟩ : MethodName)) hown (mvT hZ (hw _ (List.mem_of_getElem? (i := 13) rfl))) (mvT hZ (hw _ (List.mem_of_getElem? (i := 14) rfl))) (mvT hZ (hw _ (List.mem_of_getElem? (i := 2) rfl))) (mvT hZ (hw _ (List.mem_of_getElem? (i := 15) rfl))) (by decide) (own_back (W := 0) (rm2_13 l Z a0 hw []  A hW h0 x0 ) hZ (hw _ (List.mem_of_getElem? (i := 15) rfl)) (hw _ (List.mem_of_getElem? (i := 2) rfl)) (by decide) (by decide)) (g := (mkF m 256 #[.val (.int p0), .val (.int (13 : Int32)), .val (.ref (A 3)), .val (.int (224 : Int32)), .val (.int (224 : Int32))] [(.int (224 : Int32))])) rfl (by rw [hml]; rfl) (argsL := [(.int (224 : Int32))]) (rest := []) (lenOf pd_1 rfl) rfl (by show 2 * 0 + _ ≤ _; exact Nat.le_of_eq rfl) (hb hby at_256) (fun _ _ => ⟨rfl, e54, (by decide : 0 + 0 ≤ _), (by decide : 0 + 0 ≤ _)⟩)
    dsimp only [Pt.U, Pt.locs, Pt.cells, Pt.slots] at X55 l55 y55 z55 st55 hQ55
    subst l55 y55 z55
    obtain ⟨rfl, N55q, e55⟩ := hQ55
    have N55 := Fr.app N54 N55q
    refine own_go (B := T55.setTop (mkF m 259 #[.val (.int p0), .val (.int (13 : Int32)), .val (.ref (A 3)), .val (.int (224 : Int32)), .val (.int (224 : Int32))] [(.ref (A 3))])) st55 ?_
    refine own_go (B := T55.setTop (mkF m 260 #[.val (.int p0), .val (.int (13 : Int32)), .val (.ref (A 3)), .val (.int (224 : Int32)), .val (.int (224 : Int32))] [(.ref (A 3)), (.ref (A 3))])) (fun _ k => XS.aloadN X55.here hx rfl (hb hby at_259) rfl rfl k) ?_
    refine own_go (B := T55.setTop (mkF m 263 #[.val (.int p0), .val (.int (13 : Int32)), .val (.ref (A 3)), .val (.int (224 : Int32)), .val (.int (224 : Int32))] [])) (fun _ k => Jvm.RoadKit.acmp (g := (mkF m 260 #[.val (.int p0), .val (.int (13 : Int32)), .val (.ref (A 3)), .val (.int (224 : Int32)), .val (.int (224 : Int32))] [(.ref (A 3)), (.ref (A 3))])) X55 hx rfl rfl rfl (pc0 := 260) (pc' := 263) (same := true) rfl (hb hby at_260) rfl (decide_eq_true rfl) (by decide) (by decide) k) ?_
    refine own_go (B := T55.setTop (mkF m 264 #[.val (.int p0), .val (.int (13 : Int32)), .val (.ref (A 3)), .val (.int (224 : Int32)), .val (.int (224 : Int32))] [(.ref (A 3))])) (fun _ k => XS.aloadN X55.here hx rfl (hb hby at_263) rfl rfl k) ?_
    refine own_go (B := T55.setTop (mkF m 266 #[.val (.int p0), .val (.int (13 : Int32)), .val (.ref (A 3)), .val (.int (224 : Int32)), .val (.int (224 : Int32))] [(.int (224 : Int32)), (.ref (A 3))])) (fun _ k => XS.iload X55.here hx rfl (hb hby at_264) rfl k) ?_
    refine own_go (B := T55.setTop (mkF m 268 #[.val (.int p0), .val (.int (13 : Int32)), .val (.ref (A 3)), .val (.int (224 : Int32)), .val (.int (224 : Int32))] [(.int (15 : Int32)), (.int (224 : Int32)), (.ref (A 3))])) (fun _ k => XT.bipushV X55.here hx rfl (15 : Int32) (hb hby at_266) (by decide) k) ?_
    refine own_go (B := T55.setTop (mkF m 269 #[.val (.int p0), .val (.int (13 : Int32)), .val (.ref (A 3)), .val (.int (224 : Int32)), .val (.int (224 : Int32))] [(.int ((224 : Int32) &&& (15 : Int32))), (.ref (A 3))])) (fun _ k => XS.iand X55.here hx rfl (hb hby at_268) rfl k) ?_
    obtain ⟨cq56, kq56, q56a, q56b, q56c⟩ := isOf hZ e55 (E_DISCONNECT.ext x0)
    obtain ⟨_, _, ⟨T56, L56, k56, n56⟩, -, X56, ⟨Lc56, hQ56, l56, y56, z56⟩, st56⟩ := X55.virtualBack hx (y := (⟨"com/example/ferrybus/ferrybus/codec/PacketType", "allows", "(I)Z"⟩ : MethodName)) (z := (⟨"com/example/ferrybus/ferrybus/codec/PacketType", "allows", "(I)Z"⟩ : MethodName)) hown (mvT hZ (hw _ (List.mem_of_getElem? (i := 18) rfl))) (mvT hZ (hw _ (List.mem_of_getElem? (i := 19) rfl))) (notFace_of_selects (args := #[]) (mvT hZ (hw _ (List.mem_of_getElem? (i := 21) rfl)))) (mvT hZ (hw _ (List.mem_of_getElem? (i := 21) rfl))) (mvT hZ (hw _ (List.mem_of_getElem? (i := 20) rfl))) (by decide) (own_back (W := 0) (rm3_13 l Z a0 hw []  A hW h0 x0 ) hZ (hw _ (List.mem_of_getElem? (i := 22) rfl)) (hw _ (List.mem_of_getElem? (i := 2) rfl)) (by decide) (by decide)) q56a q56c (g := (mkF m 269 #[.val (.int p0), .val (.int (13 : Int32)), .val (.ref (A 3)), .val (.int (224 : Int32)), .val (.int (224 : Int32))] [(.int ((224 : Int32) &&& (15 : Int32))), (.ref (A 3))])) rfl (by rw [hml]; rfl) (Steps.refl _) (argsL := [(.int ((224 : Int32) &&& (15 : Int32)))]) (rest := []) (lenOf pd_2 rfl) rfl (by show 2 * 0 + _ ≤ _; exact Nat.le_of_eq rfl) (hb hby at_269) (fun _ _ => ⟨rfl, e55, (by decide : 0 + 0 ≤ _), (by decide : 0 + 0 ≤ _)⟩)
    dsimp only [Pt.U, Pt.locs, Pt.cells, Pt.slots] at X56 l56 y56 z56 st56 hQ56
    subst l56 y56 z56
    obtain ⟨rfl, N56q, e56⟩ := hQ56
    have N56 := Fr.app N55 N56q
    refine own_go (B := T56.setTop (mkF m 272 #[.val (.int p0), .val (.int (13 : Int32)), .val (.ref (A 3)), .val (.int (224 : Int32)), .val (.int (224 : Int32))] [(.int (1 : Int32))])) (fun _ k => st56.trans k) ?_
    refine own_go (B := T56.setTop (mkF m 275 #[.val (.int p0), .val (.int (13 : Int32)), .val (.ref (A 3)), .val (.int (224 : Int32)), .val (.int (224 : Int32))] [])) (fun _ k => XS.ifNo X56.here hx rfl (hb hby at_272) rfl (by decide) k) ?_
    refine own_go (B := T56.setTop (mkF m 276 #[.val (.int p0), .val (.int (13 : Int32)), .val (.ref (A 3)), .val (.int (224 : Int32)), .val (.int (224 : Int32))] [(.int (1 : Int32))])) (fun _ k => XT.iconstV X56.here hx rfl (1 : Int32) (hb hby at_275) rfl k) ?_
    refine own_go (B := T56.setTop (mkF m 280 #[.val (.int p0), .val (.int (13 : Int32)), .val (.ref (A 3)), .val (.int (224 : Int32)), .val (.int (224 : Int32))] [(.int (1 : Int32))])) (fun _ k => XS.goto X56.here hx rfl (pc0 := 276) (pc' := 280) rfl (hb hby at_276) (by decide) (by decide) k) ?_
    exact own_ret X56 hx (t := .boolean) hrt rfl (Or.inl ⟨rfl, by simp, _, rfl⟩) (hb hby at_280) hlk ⟨rfl, N56⟩ (by decide) (by decide)
  · refine own_go (B := s₁.setTop (mkF m 9 #[.val (.int p0), .val (.int (14 : Int32)), .unset, .unset, .unset] [(.int (14 : Int32))])) (fun _ k => XS.iloadN X0.here hx rfl (hb hby at_8) rfl k) ?_
    refine own_go (B := s₁.setTop (mkF m 22 #[.val (.int p0), .val (.int (14 : Int32)), .unset, .unset, .unset] [])) (fun _ k => XS.ifYes X0.here hx rfl (pc0 := 9) (pc' := 22) rfl (hb hby at_9) rfl (by decide) (by decide) (by decide) k) ?_
    refine own_go (B := s₁.setTop (mkF m 23 #[.val (.int p0), .val (.int (14 : Int32)), .unset, .unset, .unset] [(.int (14 : Int32))])) (fun _ k => XS.iloadN X0.here hx rfl (hb hby at_22) rfl k) ?_
    refine own_go (B := s₁.setTop (mkF m 24 #[.val (.int p0), .val (.int (14 : Int32)), .unset, .unset, .unset] [(.int (1 : Int32)), (.int (14 : Int32))])) (fun _ k => XT.iconstV X0.here hx rfl (1 : Int32) (hb hby at_23) rfl k) ?_
    refine own_go (B := s₁.setTop (mkF m 37 #[.val (.int p0), .val (.int (14 : Int32)), .unset, .unset, .unset] [])) (fun _ k => XS.icmpYes X0.here hx rfl (pc0 := 24) (pc' := 37) rfl (hb hby at_24) rfl (by decide) (by decide) (by decide) k) ?_
    refine own_go (B := s₁.setTop (mkF m 38 #[.val (.int p0), .val (.int (14 : Int32)), .unset, .unset, .unset] [(.int (14 : Int32))])) (fun _ k => XS.iloadN X0.here hx rfl (hb hby at_37) rfl k) ?_
    refine own_go (B := s₁.setTop (mkF m 39 #[.val (.int p0), .val (.int (14 : Int32)), .unset, .unset, .unset] [(.int (2 : Int32)), (.int (14 : Int32))])) (fun _ k => XT.iconstV X0.here hx rfl (2 : Int32) (hb hby at_38) rfl k) ?_
    refine own_go (B := s₁.setTop (mkF m 52 #[.val (.int p0), .val (.int (14 : Int32)), .unset, .unset, .unset] [])) (fun _ k => XS.icmpYes X0.here hx rfl (pc0 := 39) (pc' := 52) rfl (hb hby at_39) rfl (by decide) (by decide) (by decide) k) ?_
    refine own_go (B := s₁.setTop (mkF m 53 #[.val (.int p0), .val (.int (14 : Int32)), .unset, .unset, .unset] [(.int (14 : Int32))])) (fun _ k => XS.iloadN X0.here hx rfl (hb hby at_52) rfl k) ?_
    refine own_go (B := s₁.setTop (mkF m 54 #[.val (.int p0), .val (.int (14 : Int32)), .unset, .unset, .unset] [(.int (3 : Int32)), (.int (14 : Int32))])) (fun _ k => XT.iconstV X0.here hx rfl (3 : Int32) (hb hby at_53) rfl k) ?_
    refine own_go (B := s₁.setTop (mkF m 67 #[.val (.int p0), .val (.int (14 : Int32)), .unset, .unset, .unset] [])) (fun _ k => XS.icmpYes X0.here hx rfl (pc0 := 54) (pc' := 67) rfl (hb hby at_54) rfl (by decide) (by decide) (by decide) k) ?_
    refine own_go (B := s₁.setTop (mkF m 68 #[.val (.int p0), .val (.int (14 : Int32)), .unset, .unset, .unset] [(.int (14 : Int32))])) (fun _ k => XS.iloadN X0.here hx rfl (hb hby at_67) rfl k) ?_
    refine own_go (B := s₁.setTop (mkF m 69 #[.val (.int p0), .val (.int (14 : Int32)), .unset, .unset, .unset] [(.int (4 : Int32)), (.int (14 : Int32))])) (fun _ k => XT.iconstV X0.here hx rfl (4 : Int32) (hb hby at_68) rfl k) ?_
    refine own_go (B := s₁.setTop (mkF m 82 #[.val (.int p0), .val (.int (14 : Int32)), .unset, .unset, .unset] [])) (fun _ k => XS.icmpYes X0.here hx rfl (pc0 := 69) (pc' := 82) rfl (hb hby at_69) rfl (by decide) (by decide) (by decide) k) ?_
    refine own_go (B := s₁.setTop (mkF m 83 #[.val (.int p0), .val (.int (14 : Int32)), .unset, .unset, .unset] [(.int (14 : Int32))])) (fun _ k => XS.iloadN X0.here hx rfl (hb hby at_82) rfl k) ?_
    refine own_go (B := s₁.setTop (mkF m 84 #[.val (.int p0), .val (.int (14 : Int32)), .unset, .unset, .unset] [(.int (5 : Int32)), (.int (14 : Int32))])) (fun _ k => XT.iconstV X0.here hx rfl (5 : Int32) (hb hby at_83) rfl k) ?_
    refine own_go (B := s₁.setTop (mkF m 97 #[.val (.int p0), .val (.int (14 : Int32)), .unset, .unset, .unset] [])) (fun _ k => XS.icmpYes X0.here hx rfl (pc0 := 84) (pc' := 97) rfl (hb hby at_84) rfl (by decide) (by decide) (by decide) k) ?_
    refine own_go (B := s₁.setTop (mkF m 98 #[.val (.int p0), .val (.int (14 : Int32)), .unset, .unset, .unset] [(.int (14 : Int32))])) (fun _ k => XS.iloadN X0.here hx rfl (hb hby at_97) rfl k) ?_
    refine own_go (B := s₁.setTop (mkF m 100 #[.val (.int p0), .val (.int (14 : Int32)), .unset, .unset, .unset] [(.int (6 : Int32)), (.int (14 : Int32))])) (fun _ k => XT.bipushV X0.here hx rfl (6 : Int32) (hb hby at_98) (by decide) k) ?_
    refine own_go (B := s₁.setTop (mkF m 113 #[.val (.int p0), .val (.int (14 : Int32)), .unset, .unset, .unset] [])) (fun _ k => XS.icmpYes X0.here hx rfl (pc0 := 100) (pc' := 113) rfl (hb hby at_100) rfl (by decide) (by decide) (by decide) k) ?_
    refine own_go (B := s₁.setTop (mkF m 114 #[.val (.int p0), .val (.int (14 : Int32)), .unset, .unset, .unset] [(.int (14 : Int32))])) (fun _ k => XS.iloadN X0.here hx rfl (hb hby at_113) rfl k) ?_
    refine own_go (B := s₁.setTop (mkF m 116 #[.val (.int p0), .val (.int (14 : Int32)), .unset, .unset, .unset] [(.int (7 : Int32)), (.int (14 : Int32))])) (fun _ k => XT.bipushV X0.here hx rfl (7 : Int32) (hb hby at_114) (by decide) k) ?_
    refine own_go (B := s₁.setTop (mkF m 130 #[.val (.int p0), .val (.int (14 : Int32)), .unset, .unset, .unset] [])) (fun _ k => XS.icmpYes X0.here hx rfl (pc0 := 116) (pc' := 130) rfl (hb hby at_116) rfl (by decide) (by decide) (by decide) k) ?_
    refine own_go (B := s₁.setTop (mkF m 131 #[.val (.int p0), .val (.int (14 : Int32)), .unset, .unset, .unset] [(.int (14 : Int32))])) (fun _ k => XS.iloadN X0.here hx rfl (hb hby at_130) rfl k) ?_
    refine own_go (B := s₁.setTop (mkF m 133 #[.val (.int p0), .val (.int (14 : Int32)), .unset, .unset, .unset] [(.int (8 : Int32)), (.int (14 : Int32))])) (fun _ k => XT.bipushV X0.here hx rfl (8 : Int32) (hb hby at_131) (by decide) k) ?_
    refine own_go (B := s₁.setTop (mkF m 147 #[.val (.int p0), .val (.int (14 : Int32)), .unset, .unset, .unset] [])) (fun _ k => XS.icmpYes X0.here hx rfl (pc0 := 133) (pc' := 147) rfl (hb hby at_133) rfl (by decide) (by decide) (by decide) k) ?_
    refine own_go (B := s₁.setTop (mkF m 148 #[.val (.int p0), .val (.int (14 : Int32)), .unset, .unset, .unset] [(.int (14 : Int32))])) (fun _ k => XS.iloadN X0.here hx rfl (hb hby at_147) rfl k) ?_
    refine own_go (B := s₁.setTop (mkF m 150 #[.val (.int p0), .val (.int (14 : Int32)), .unset, .unset, .unset] [(.int (9 : Int32)), (.int (14 : Int32))])) (fun _ k => XT.bipushV X0.here hx rfl (9 : Int32) (hb hby at_148) (by decide) k) ?_
    refine own_go (B := s₁.setTop (mkF m 164 #[.val (.int p0), .val (.int (14 : Int32)), .unset, .unset, .unset] [])) (fun _ k => XS.icmpYes X0.here hx rfl (pc0 := 150) (pc' := 164) rfl (hb hby at_150) rfl (by decide) (by decide) (by decide) k) ?_
    refine own_go (B := s₁.setTop (mkF m 165 #[.val (.int p0), .val (.int (14 : Int32)), .unset, .unset, .unset] [(.int (14 : Int32))])) (fun _ k => XS.iloadN X0.here hx rfl (hb hby at_164) rfl k) ?_
    refine own_go (B := s₁.setTop (mkF m 167 #[.val (.int p0), .val (.int (14 : Int32)), .unset, .unset, .unset] [(.int (10 : Int32)), (.int (14 : Int32))])) (fun _ k => XT.bipushV X0.here hx rfl (10 : Int32) (hb hby at_165) (by decide) k) ?_
    refine own_go (B := s₁.setTop (mkF m 181 #[.val (.int p0), .val (.int (14 : Int32)), .unset, .unset, .unset] [])) (fun _ k => XS.icmpYes X0.here hx rfl (pc0 := 167) (pc' := 181) rfl (hb hby at_167) rfl (by decide) (by decide) (by decide) k) ?_
    refine own_go (B := s₁.setTop (mkF m 182 #[.val (.int p0), .val (.int (14 : Int32)), .unset, .unset, .unset] [(.int (14 : Int32))])) (fun _ k => XS.iloadN X0.here hx rfl (hb hby at_181) rfl k) ?_
    refine own_go (B := s₁.setTop (mkF m 184 #[.val (.int p0), .val (.int (14 : Int32)), .unset, .unset, .unset] [(.int (11 : Int32)), (.int (14 : Int32))])) (fun _ k => XT.bipushV X0.here hx rfl (11 : Int32) (hb hby at_182) (by decide) k) ?_
    refine own_go (B := s₁.setTop (mkF m 198 #[.val (.int p0), .val (.int (14 : Int32)), .unset, .unset, .unset] [])) (fun _ k => XS.icmpYes X0.here hx rfl (pc0 := 184) (pc' := 198) rfl (hb hby at_184) rfl (by decide) (by decide) (by decide) k) ?_
    refine own_go (B := s₁.setTop (mkF m 199 #[.val (.int p0), .val (.int (14 : Int32)), .unset, .unset, .unset] [(.int (14 : Int32))])) (fun _ k => XS.iloadN X0.here hx rfl (hb hby at_198) rfl k) ?_
    refine own_go (B := s₁.setTop (mkF m 201 #[.val (.int p0), .val (.int (14 : Int32)), .unset, .unset, .unset] [(.int (12 : Int32)), (.int (14 : Int32))])) (fun _ k => XT.bipushV X0.here hx rfl (12 : Int32) (hb hby at_199) (by decide) k) ?_
    refine own_go (B := s₁.setTop (mkF m 215 #[.val (.int p0), .val (.int (14 : Int32)), .unset, .unset, .unset] [])) (fun _ k => XS.icmpYes X0.here hx rfl (pc0 := 201) (pc' := 215) rfl (hb hby at_201) rfl (by decide) (by decide) (by decide) k) ?_
    refine own_go (B := s₁.setTop (mkF m 216 #[.val (.int p0), .val (.int (14 : Int32)), .unset, .unset, .unset] [(.int (14 : Int32))])) (fun _ k => XS.iloadN X0.here hx rfl (hb hby at_215) rfl k) ?_
    refine own_go (B := s₁.setTop (mkF m 218 #[.val (.int p0), .val (.int (14 : Int32)), .unset, .unset, .unset] [(.int (13 : Int32)), (.int (14 : Int32))])) (fun _ k => XT.bipushV X0.here hx rfl (13 : Int32) (hb hby at_216) (by decide) k) ?_
    refine own_go (B := s₁.setTop (mkF m 232 #[.val (.int p0), .val (.int (14 : Int32)), .unset, .unset, .unset] [])) (fun _ k => XS.icmpYes X0.here hx rfl (pc0 := 218) (pc' := 232) rfl (hb hby at_218) rfl (by decide) (by decide) (by decide) k) ?_
    obtain ⟨T57, X57, e57, st57⟩ := getS2 X0 hx hZ hown (host := "") (Or.inl (hw _ (List.mem_of_getElem? (i := 31) rfl))) Via.refl e0 (S_AUTH.ext x0) (g := (mkF m 232 #[.val (.int p0), .val (.int (14 : Int32)), .unset, .unset, .unset] [])) rfl (hb hby at_232)
    refine own_go (B := T57.setTop (mkF m 235 #[.val (.int p0), .val (.int (14 : Int32)), .unset, .unset, .unset] [(.ref (A 5))])) st57 ?_
    refine own_go (B := T57.setTop (mkF m 236 #[.val (.int p0), .val (.int (14 : Int32)), .val (.ref (A 5)), .unset, .unset] [])) (fun _ k => XS.astoreN X57.here hx rfl (hb hby at_235) rfl rfl (l' := #[.val (.int p0), .val (.int (14 : Int32)), .val (.ref (A 5)), .unset, .unset]) rfl k) ?_
    refine own_go (B := T57.setTop (mkF m 239 #[.val (.int p0), .val (.int (14 : Int32)), .val (.ref (A 5)), .unset, .unset] [(.int (240 : Int32))])) (fun _ k => XT.sipushV X57.here hx rfl (240 : Int32) (hb hby at_236) (by decide) k) ?_
    refine own_go (B := T57.setTop (mkF m 240 #[.val (.int p0), .val (.int (14 : Int32)), .val (.ref (A 5)), .val (.int (240 : Int32)), .unset] [])) (fun _ k => XS.istoreN X57.here hx rfl (hb hby at_239) rfl (l' := #[.val (.int p0), .val (.int (14 : Int32)), .val (.ref (A 5)), .val (.int (240 : Int32)), .unset]) rfl k) ?_
    refine own_go (B := T57.setTop (mkF m 241 #[.val (.int p0), .val (.int (14 : Int32)), .val (.ref (A 5)), .val (.int (240 : Int32)), .unset] [(.ref (A 5))])) (fun _ k => XS.aloadN X57.here hx rfl (hb hby at_240) rfl rfl k) ?_
    obtain ⟨cq58, kq58, q58a, q58b, q58c⟩ := isOf hZ e57 (E_AUTH.ext x0)
    obtain ⟨_, _, ⟨T58, L58, k58, n58⟩, -, X58, ⟨Lc58, hQ58, l58, y58, z58⟩, st58⟩ := X57.virtualBack hx (y := (⟨"com/example/ferrybus/ferrybus/codec/PacketType", "firstByte", "()I"⟩ : MethodName)) (z := (⟨"com/example/ferrybus/ferrybus/codec/PacketType", "firstByte", "()I"⟩ : MethodName)) hown (mvT hZ (hw _ (List.mem_of_getElem? (i := 4) rfl))) (mvT hZ (hw _ (List.mem_of_getElem? (i := 5) rfl))) (notFace_of_selects (args := #[]) (mvT hZ (hw _ (List.mem_of_getElem? (i := 7) rfl)))) (mvT hZ (hw _ (List.mem_of_getElem? (i := 7) rfl))) (mvT hZ (hw _ (List.mem_of_getElem? (i := 6) rfl))) (by decide) (own_back (W := 0) (rm1_14 l Z a0 hw []  A hW h0 x0 ) hZ (hw _ (List.mem_of_getElem? (i := 8) rfl)) (hw _ (List.mem_of_getElem? (i := 2) rfl)) (by decide) (by decide)) q58a q58c (g := (mkF m 241 #[.val (.int p0), .val (.int (14 : Int32)), .val (.ref (A 5)), .val (.int (240 : Int32)), .unset] [(.ref (A 5))])) rfl (by rw [hml]; rfl) (Steps.refl _) (argsL := []) (rest := []) (lenOf pd_0 rfl) rfl (by show 2 * 0 + _ ≤ _; exact Nat.le_of_eq rfl) (hb hby at_241) (fun _ _ => ⟨rfl, e57, (by decide : 0 + 0 ≤ _), (by decide : 0 + 0 ≤ _)⟩)
    dsimp only [Pt.U, Pt.locs, Pt.cells, Pt.slots] at X58 l58 y58 z58 st58 hQ58
    subst l58 y58 z58
    obtain ⟨rfl, N58q, e58⟩ := hQ58
    have N58 := Fr.app N0 N58q
    refine own_go (B := T58.setTop (mkF m 244 #[.val (.int p0), .val (.int (14 : Int32)), .val (.ref (A 5)), .val (.int (240 : Int32)), .unset] [(.int (240 : Int32))])) (fun _ k => st58.trans k) ?_
    refine own_go (B := T58.setTop (mkF m 246 #[.val (.int p0), .val (.int (14 : Int32)), .val (.ref (A 5)), .val (.int (240 : Int32)), .val (.int (240 : Int32))] [])) (fun _ k => XS.istore X58.here hx rfl (hb hby at_244) rfl (l' := #[.val (.int p0), .val (.int (14 : Int32)), .val (.ref (A 5)), .val (.int (240 : Int32)), .val (.int (240 : Int32))]) rfl k) ?_
    refine own_go (B := T58.setTop (mkF m 248 #[.val (.int p0), .val (.int (14 : Int32)), .val (.ref (A 5)), .val (.int (240 : Int32)), .val (.int (240 : Int32))] [(.int (240 : Int32))])) (fun _ k => XS.iload X58.here hx rfl (hb hby at_246) rfl k) ?_
    refine own_go (B := T58.setTop (mkF m 249 #[.val (.int p0), .val (.int (14 : Int32)), .val (.ref (A 5)), .val (.int (240 : Int32)), .val (.int (240 : Int32))] [(.int (240 : Int32)), (.int (240 : Int32))])) (fun _ k => XS.iloadN X58.here hx rfl (hb hby at_248) rfl k) ?_
    refine own_go (B := T58.setTop (mkF m 254 #[.val (.int p0), .val (.int (14 : Int32)), .val (.ref (A 5)), .val (.int (240 : Int32)), .val (.int (240 : Int32))] [])) (fun _ k => XS.icmpYes X58.here hx rfl (pc0 := 249) (pc' := 254) rfl (hb hby at_249) rfl (by decide) (by decide) (by decide) k) ?_
    refine own_go (B := T58.setTop (mkF m 256 #[.val (.int p0), .val (.int (14 : Int32)), .val (.ref (A 5)), .val (.int (240 : Int32)), .val (.int (240 : Int32))] [(.int (240 : Int32))])) (fun _ k => XS.iload X58.here hx rfl (hb hby at_254) rfl k) ?_
    obtain ⟨_, _, ⟨T59, L59, k59, n59⟩, -, X59, ⟨Lc59, hQ59, l59, y59, z59⟩, st59⟩ := Jvm.LawKit.callS X58 hx (y := (⟨"com/example/ferrybus/ferrybus/codec/PacketType", "of", "(I)Lcom/example/ferrybus/ferrybus/codec/PacketType;"⟩ : MethodName)) hown (mvT hZ (hw _ (List.mem_of_getElem? (i := 13) rfl))) (mvT hZ (hw _ (List.mem_of_getElem? (i := 14) rfl))) (mvT hZ (hw _ (List.mem_of_getElem? (i := 2) rfl))) (mvT hZ (hw _ (List.mem_of_getElem? (i := 15) rfl))) (by decide) (own_back (W := 0) (rm2_14 l Z a0 hw []  A hW h0 x0 ) hZ (hw _ (List.mem_of_getElem? (i := 15) rfl)) (hw _ (List.mem_of_getElem? (i := 2) rfl)) (by decide) (by decide)) (g := (mkF m 256 #[.val (.int p0), .val (.int (14 : Int32)), .val (.ref (A 5)), .val (.int (240 : Int32)), .val (.int (240 : Int32))] [(.int (240 : Int32))])) rfl (by rw [hml]; rfl) (argsL := [(.int (240 : Int32))]) (rest := []) (lenOf pd_1 rfl) rfl (by show 2 * 0 + _ ≤ _; exact Nat.le_of_eq rfl) (hb hby at_256) (fun _ _ => ⟨rfl, e58, (by decide : 0 + 0 ≤ _), (by decide : 0 + 0 ≤ _)⟩)
    dsimp only [Pt.U, Pt.locs, Pt.cells, Pt.slots] at X59 l59 y59 z59 st59 hQ59
    subst l59 y59 z59
    obtain ⟨rfl, N59q, e59⟩ := hQ59
    have N59 := Fr.app N58 N59q
    refine own_go (B := T59.setTop (mkF m 259 #[.val (.int p0), .val (.int (14 : Int32)), .val (.ref (A 5)), .val (.int (240 : Int32)), .val (.int (240 : Int32))] [(.ref (A 5))])) st59 ?_
    refine own_go (B := T59.setTop (mkF m 260 #[.val (.int p0), .val (.int (14 : Int32)), .val (.ref (A 5)), .val (.int (240 : Int32)), .val (.int (240 : Int32))] [(.ref (A 5)), (.ref (A 5))])) (fun _ k => XS.aloadN X59.here hx rfl (hb hby at_259) rfl rfl k) ?_
    refine own_go (B := T59.setTop (mkF m 263 #[.val (.int p0), .val (.int (14 : Int32)), .val (.ref (A 5)), .val (.int (240 : Int32)), .val (.int (240 : Int32))] [])) (fun _ k => Jvm.RoadKit.acmp (g := (mkF m 260 #[.val (.int p0), .val (.int (14 : Int32)), .val (.ref (A 5)), .val (.int (240 : Int32)), .val (.int (240 : Int32))] [(.ref (A 5)), (.ref (A 5))])) X59 hx rfl rfl rfl (pc0 := 260) (pc' := 263) (same := true) rfl (hb hby at_260) rfl (decide_eq_true rfl) (by decide) (by decide) k) ?_
    refine own_go (B := T59.setTop (mkF m 264 #[.val (.int p0), .val (.int (14 : Int32)), .val (.ref (A 5)), .val (.int (240 : Int32)), .val (.int (240 : Int32))] [(.ref (A 5))])) (fun _ k => XS.aloadN X59.here hx rfl (hb hby at_263) rfl rfl k) ?_
    refine own_go (B := T59.setTop (mkF m 266 #[.val (.int p0), .val (.int (14 : Int32)), .val (.ref (A 5)), .val (.int (240 : Int32)), .val (.int (240 : Int32))] [(.int (240 : Int32)), (.ref (A 5))])) (fun _ k => XS.iload X59.here hx rfl (hb hby at_264) rfl k) ?_
    refine own_go (B := T59.setTop (mkF m 268 #[.val (.int p0), .val (.int (14 : Int32)), .val (.ref (A 5)), .val (.int (240 : Int32)), .val (.int (240 : Int32))] [(.int (15 : Int32)), (.int (240 : Int32)), (.ref (A 5))])) (fun _ k => XT.bipushV X59.here hx rfl (15 : Int32) (hb hby at_266) (by decide) k) ?_
    refine own_go (B := T59.setTop (mkF m 269 #[.val (.int p0), .val (.int (14 : Int32)), .val (.ref (A 5)), .val (.int (240 : Int32)), .val (.int (240 : Int32))] [(.int ((240 : Int32) &&& (15 : Int32))), (.ref (A 5))])) (fun _ k => XS.iand X59.here hx rfl (hb hby at_268) rfl k) ?_
    obtain ⟨cq60, kq60, q60a, q60b, q60c⟩ := isOf hZ e59 (E_AUTH.ext x0)
    obtain ⟨_, _, ⟨T60, L60, k60, n60⟩, -, X60, ⟨Lc60, hQ60, l60, y60, z60⟩, st60⟩ := X59.virtualBack hx (y := (⟨"com/example/ferrybus/ferrybus/codec/PacketType", "allows", "(I)Z"⟩ : MethodName)) (z := (⟨"com/example/ferrybus/ferrybus/codec/PacketType", "allows", "(I)Z"⟩ : MethodName)) hown (mvT hZ (hw _ (List.mem_of_getElem? (i := 18) rfl))) (mvT hZ (hw _ (List.mem_of_getElem? (i := 19) rfl))) (notFace_of_selects (args := #[]) (mvT hZ (hw _ (List.mem_of_getElem? (i := 21) rfl)))) (mvT hZ (hw _ (List.mem_of_getElem? (i := 21) rfl))) (mvT hZ (hw _ (List.mem_of_getElem? (i := 20) rfl))) (by decide) (own_back (W := 0) (rm3_14 l Z a0 hw []  A hW h0 x0 ) hZ (hw _ (List.mem_of_getElem? (i := 22) rfl)) (hw _ (List.mem_of_getElem? (i := 2) rfl)) (by decide) (by decide)) q60a q60c (g := (mkF m 269 #[.val (.int p0), .val (.int (14 : Int32)), .val (.ref (A 5)), .val (.int (240 : Int32)), .val (.int (240 : Int32))] [(.int ((240 : Int32) &&& (15 : Int32))), (.ref (A 5))])) rfl (by rw [hml]; rfl) (Steps.refl _) (argsL := [(.int ((240 : Int32) &&& (15 : Int32)))]) (rest := []) (lenOf pd_2 rfl) rfl (by show 2 * 0 + _ ≤ _; exact Nat.le_of_eq rfl) (hb hby at_269) (fun _ _ => ⟨rfl, e59, (by decide : 0 + 0 ≤ _), (by decide : 0 + 0 ≤ _)⟩)
    dsimp only [Pt.U, Pt.locs, Pt.cells, Pt.slots] at X60 l60 y60 z60 st60 hQ60
    subst l60 y60 z60
    obtain ⟨rfl, N60q, e60⟩ := hQ60
    have N60 := Fr.app N59 N60q
    refine own_go (B := T60.setTop (mkF m 272 #[.val (.int p0), .val (.int (14 : Int32)), .val (.ref (A 5)), .val (.int (240 : Int32)), .val (.int (240 : Int32))] [(.int (1 : Int32))])) (fun _ k => st60.trans k) ?_
    refine own_go (B := T60.setTop (mkF m 275 #[.val (.int p0), .val (.int (14 : Int32)), .val (.ref (A 5)), .val (.int (240 : Int32)), .val (.int (240 : Int32))] [])) (fun _ k => XS.ifNo X60.here hx rfl (hb hby at_272) rfl (by decide) k) ?_
    refine own_go (B := T60.setTop (mkF m 276 #[.val (.int p0), .val (.int (14 : Int32)), .val (.ref (A 5)), .val (.int (240 : Int32)), .val (.int (240 : Int32))] [(.int (1 : Int32))])) (fun _ k => XT.iconstV X60.here hx rfl (1 : Int32) (hb hby at_275) rfl k) ?_
    refine own_go (B := T60.setTop (mkF m 280 #[.val (.int p0), .val (.int (14 : Int32)), .val (.ref (A 5)), .val (.int (240 : Int32)), .val (.int (240 : Int32))] [(.int (1 : Int32))])) (fun _ k => XS.goto X60.here hx rfl (pc0 := 276) (pc' := 280) rfl (hb hby at_276) (by decide) (by decide) k) ?_
    exact own_ret X60 hx (t := .boolean) hrt rfl (Or.inl ⟨rfl, by simp, _, rfl⟩) (hb hby at_280) hlk ⟨rfl, N60⟩ (by decide) (by decide)
set_option maxRecDepth 65536 in
set_option maxHeartbeats 40000000 in
theorem comes_1 {Post : Tables → Env → Array Value → State → Outcome → State → Prop} (hpost : ∀ tb e args s v u, (limb_1_1.after args s (.returned v) u = true ∧ limb_1_2.after args s (.returned v) u = true ∧ True) → FrameEnd s (.returned v) u (Jvm.fieldLocs frame_1_writes args s ++ Jvm.arrayLocs frame_1_arrays args s ++ Jvm.staticLocs frame_1_statics s) 0 0 → Post tb e args s (.returned v) u) :
    ArmFor flags0 classFile x code maxLocals ret World_1 tables_1 room_1 Calls_1 rest_1 Pre_1 Post := by
  intro l hfl _ _ p e ha hc hk s m args below hf hA hF happ hP
  obtain ⟨hcalls, hrest, hpre⟩ := hP
  obtain ⟨-, -, -, hnamed, -, -, -, hat⟩ := (Spec.applies_iff hf).mp happ
  obtain ⟨hg, hn⟩ := and_e (Cond.before_iff.mp (show (Jvm.Cond.and given_1 narrow_1).before args s = true from hpre))
  obtain ⟨g1a, g1b⟩ := and_e hg
  obtain ⟨w0, rfl⟩ : ∃ w0 : Value, args = #[w0] := by
    have hs : args.size = 1 := by simpa [Cond.value, given_1] using g1a
    obtain ⟨L⟩ := args
    match L, hs with
    | [w0], _ => exact ⟨w0, rfl⟩
  have hw := fun d (hd : d ∈ tables_1) => atoms_spec (ws := Jvm.Cond.code x code maxLocals ret :: tables_1) hat d (List.mem_cons_of_mem _ hd)
  obtain ⟨i0, ei0⟩ := is_v g1b
  obtain rfl : w0 = (.int i0) := Option.some.inj ei0
  have hfit : Fit s := fun {y c} hc i hi => by
    obtain ⟨ha, rfl⟩ := Array.getElem?_eq_some_iff.mp hc
    have q := List.all_eq_true.mp ((Array.all_eq_true_iff_forall_mem.mp hF) _ (Array.getElem_mem ha)) i (List.mem_range.mpr hi)
    simpa [Array.getElem?_eq_getElem hi] using q
  obtain ⟨u1a, u1b⟩ := and_e hn
  obtain ⟨u2a, u2b⟩ := and_e u1b
  obtain ⟨u3a, u3b⟩ := and_e u2b
  obtain ⟨u4a, u4b⟩ := and_e u3b
  obtain ⟨u5a, u5b⟩ := and_e u4b
  obtain ⟨u6a, u6b⟩ := and_e u5b
  obtain ⟨u7a, u7b⟩ := and_e u6b
  obtain ⟨u8a, u8b⟩ := and_e u7b
  obtain ⟨u9a, u9b⟩ := and_e u8b
  obtain ⟨u10a, u10b⟩ := and_e u9b
  obtain ⟨u11a, u11b⟩ := and_e u10b
  obtain ⟨u12a, u12b⟩ := and_e u11b
  obtain ⟨u13a, u13b⟩ := and_e u12b
  obtain ⟨u14a, u14b⟩ := and_e u13b
  obtain ⟨u15a, u15b⟩ := and_e u14b
  obtain ⟨u16a, u16b⟩ := and_e u15b
  obtain ⟨u17a, u17b⟩ := and_e u16b
  obtain ⟨u18a, u18b⟩ := and_e u17b
  obtain ⟨u19a, u19b⟩ := and_e u18b
  obtain ⟨u20a, u20b⟩ := and_e u19b
  obtain ⟨u21a, u21b⟩ := and_e u20b
  obtain ⟨u22a, u22b⟩ := and_e u21b
  obtain ⟨u23a, u23b⟩ := and_e u22b
  obtain ⟨u24a, u24b⟩ := and_e u23b
  obtain ⟨u25a, u25b⟩ := and_e u24b
  obtain ⟨u26a, u26b⟩ := and_e u25b
  obtain ⟨u27a, u27b⟩ := and_e u26b
  obtain ⟨u28a, u28b⟩ := and_e u27b
  obtain ⟨u29a, u29b⟩ := and_e u28b
  obtain ⟨u30a, u30b⟩ := and_e u29b
  obtain ⟨u31a, u31b⟩ := and_e u30b
  obtain ⟨u32a, u32b⟩ := and_e u31b
  obtain ⟨u33a, u33b⟩ := and_e u32b
  obtain ⟨u34a, u34b⟩ := and_e u33b
  obtain ⟨u35a, u35b⟩ := and_e u34b
  obtain ⟨u36a, u36b⟩ := and_e u35b
  obtain ⟨u37a, u37b⟩ := and_e u36b
  obtain ⟨u38a, u38b⟩ := and_e u37b
  obtain ⟨u39a, u39b⟩ := and_e u38b
  obtain ⟨u40a, u40b⟩ := and_e u39b
  obtain ⟨u41a, u41b⟩ := and_e u40b
  obtain ⟨u42a, u42b⟩ := and_e u41b
  obtain ⟨u43a, u43b⟩ := and_e u42b
  obtain ⟨u44a, u44b⟩ := and_e u43b
  obtain ⟨u45a, u45b⟩ := and_e u44b
  obtain ⟨u46a, u46b⟩ := and_e u45b
  obtain ⟨u47a, u47b⟩ := and_e u46b
  obtain ⟨u48a, u48b⟩ := and_e u47b
  obtain ⟨u49a, u49b⟩ := and_e u48b
  obtain ⟨u50a, u50b⟩ := and_e u49b
  obtain ⟨u51a, u51b⟩ := and_e u50b
  obtain ⟨u52a, u52b⟩ := and_e u51b
  obtain ⟨u53a, u53b⟩ := and_e u52b
  obtain ⟨u54a, u54b⟩ := and_e u53b
  obtain ⟨u55a, u55b⟩ := and_e u54b
  obtain ⟨u56a, u56b⟩ := and_e u55b
  obtain ⟨u57a, u57b⟩ := and_e u56b
  obtain ⟨u58a, u58b⟩ := and_e u57b
  obtain ⟨u59a, u59b⟩ := and_e u58b
  obtain ⟨u60a, u60b⟩ := and_e u59b
  obtain ⟨u61a, u61b⟩ := and_e u60b
  obtain ⟨u62a, u62b⟩ := and_e u61b
  obtain ⟨a_CONNECT, ev_CONNECT⟩ := exa_v u1a
  obtain ⟨a_PUBACK, ev_PUBACK⟩ := exa_v u7a
  obtain ⟨a_PUBREL, ev_PUBREL⟩ := exa_v u11a
  obtain ⟨a_DISCONNECT, ev_DISCONNECT⟩ := exa_v u15a
  obtain ⟨a_PUBCOMP, ev_PUBCOMP⟩ := exa_v u19a
  obtain ⟨a_AUTH, ev_AUTH⟩ := exa_v u23a
  obtain ⟨a_SUBSCRIBE, ev_SUBSCRIBE⟩ := exa_v u27a
  obtain ⟨a_PUBLISH, ev_PUBLISH⟩ := exa_v u31a
  obtain ⟨a_PINGREQ, ev_PINGREQ⟩ := exa_v u35a
  obtain ⟨a_UNSUBACK, ev_UNSUBACK⟩ := exa_v u39a
  obtain ⟨a_SUBACK, ev_SUBACK⟩ := exa_v u43a
  obtain ⟨a_CONNACK, ev_CONNACK⟩ := exa_v u47a
  obtain ⟨a_PINGRESP, ev_PINGRESP⟩ := exa_v u51a
  obtain ⟨a_PUBREC, ev_PUBREC⟩ := exa_v u55a
  obtain ⟨a_UNSUBSCRIBE, ev_UNSUBSCRIBE⟩ := exa_v u59a
  obtain ⟨a_BY_VALUE, ev_BY_VALUE⟩ := arr_v u4a
  obtain ⟨cl_BY_VALUE, Ar_BY_VALUE⟩ := Arr.start ev_BY_VALUE u4a
  obtain ⟨ql_BY_VALUE, el_BY_VALUE⟩ := own_len ev_BY_VALUE Ar_BY_VALUE u5a
  obtain ⟨n, o, h1, h2, h3, _, L, rfl, ⟨rfl, N⟩, hq⟩ := rm0 l s _ hw tables_1 i0 (fun n => [a_CONNECT, a_PUBACK, a_PUBREL, a_DISCONNECT, a_PUBCOMP, a_AUTH, a_SUBSCRIBE, a_PUBLISH, a_PINGREQ, a_UNSUBACK, a_SUBACK, a_CONNACK, a_PINGRESP, a_PUBREC, a_UNSUBSCRIBE, a_BY_VALUE].getD n 0) ⟨(Sta.start ev_CONNECT (Or.inr ⟨(hw _ (List.mem_of_getElem? (i := 2) rfl)), (hw _ (List.mem_of_getElem? (i := 3) rfl))⟩)), (Exa.start ev_CONNECT u1a), (Sta.start ev_PUBACK (Or.inr ⟨(hw _ (List.mem_of_getElem? (i := 2) rfl)), (hw _ (List.mem_of_getElem? (i := 24) rfl))⟩)), (Exa.start ev_PUBACK u7a), (Sta.start ev_PUBREL (Or.inr ⟨(hw _ (List.mem_of_getElem? (i := 2) rfl)), (hw _ (List.mem_of_getElem? (i := 26) rfl))⟩)), (Exa.start ev_PUBREL u11a), (Sta.start ev_DISCONNECT (Or.inr ⟨(hw _ (List.mem_of_getElem? (i := 2) rfl)), (hw _ (List.mem_of_getElem? (i := 28) rfl))⟩)), (Exa.start ev_DISCONNECT u15a), (Sta.start ev_PUBCOMP (Or.inr ⟨(hw _ (List.mem_of_getElem? (i := 2) rfl)), (hw _ (List.mem_of_getElem? (i := 30) rfl))⟩)), (Exa.start ev_PUBCOMP u19a), (Sta.start ev_AUTH (Or.inr ⟨(hw _ (List.mem_of_getElem? (i := 2) rfl)), (hw _ (List.mem_of_getElem? (i := 32) rfl))⟩)), (Exa.start ev_AUTH u23a), (Sta.start ev_SUBSCRIBE (Or.inr ⟨(hw _ (List.mem_of_getElem? (i := 2) rfl)), (hw _ (List.mem_of_getElem? (i := 34) rfl))⟩)), (Exa.start ev_SUBSCRIBE u27a), (Sta.start ev_PUBLISH (Or.inr ⟨(hw _ (List.mem_of_getElem? (i := 2) rfl)), (hw _ (List.mem_of_getElem? (i := 36) rfl))⟩)), (Exa.start ev_PUBLISH u31a), (Sta.start ev_PINGREQ (Or.inr ⟨(hw _ (List.mem_of_getElem? (i := 2) rfl)), (hw _ (List.mem_of_getElem? (i := 38) rfl))⟩)), (Exa.start ev_PINGREQ u35a), (Sta.start ev_UNSUBACK (Or.inr ⟨(hw _ (List.mem_of_getElem? (i := 2) rfl)), (hw _ (List.mem_of_getElem? (i := 40) rfl))⟩)), (Exa.start ev_UNSUBACK u39a), (Sta.start ev_SUBACK (Or.inr ⟨(hw _ (List.mem_of_getElem? (i := 2) rfl)), (hw _ (List.mem_of_getElem? (i := 42) rfl))⟩)), (Exa.start ev_SUBACK u43a), (Sta.start ev_CONNACK (Or.inr ⟨(hw _ (List.mem_of_getElem? (i := 2) rfl)), (hw _ (List.mem_of_getElem? (i := 44) rfl))⟩)), (Exa.start ev_CONNACK u47a), (Sta.start ev_PINGRESP (Or.inr ⟨(hw _ (List.mem_of_getElem? (i := 2) rfl)), (hw _ (List.mem_of_getElem? (i := 46) rfl))⟩)), (Exa.start ev_PINGRESP u51a), (Sta.start ev_PUBREC (Or.inr ⟨(hw _ (List.mem_of_getElem? (i := 2) rfl)), (hw _ (List.mem_of_getElem? (i := 48) rfl))⟩)), (Exa.start ev_PUBREC u55a), (Sta.start ev_UNSUBSCRIBE (Or.inr ⟨(hw _ (List.mem_of_getElem? (i := 2) rfl)), (hw _ (List.mem_of_getElem? (i := 50) rfl))⟩)), (Exa.start ev_UNSUBSCRIBE u59a), (Sta.start ev_BY_VALUE (Or.inr ⟨(hw _ (List.mem_of_getElem? (i := 2) rfl)), (hw _ (List.mem_of_getElem? (i := 17) rfl))⟩)), ⟨_, Arv.start hfit Ar_BY_VALUE ql_BY_VALUE el_BY_VALUE (by decide) rfl ⟨(own_elV ev_BY_VALUE Ar_BY_VALUE.1 null_at u62b (i := 0) (by decide)), (own_elV ev_BY_VALUE Ar_BY_VALUE.1 ev_CONNECT u6a (i := 1) (by decide)), (own_elV ev_BY_VALUE Ar_BY_VALUE.1 ev_CONNACK u50a (i := 2) (by decide)), (own_elV ev_BY_VALUE Ar_BY_VALUE.1 ev_PUBLISH u34a (i := 3) (by decide)), (own_elV ev_BY_VALUE Ar_BY_VALUE.1 ev_PUBACK u10a (i := 4) (by decide)), (own_elV ev_BY_VALUE Ar_BY_VALUE.1 ev_PUBREC u58a (i := 5) (by decide)), (own_elV ev_BY_VALUE Ar_BY_VALUE.1 ev_PUBREL u14a (i := 6) (by decide)), (own_elV ev_BY_VALUE Ar_BY_VALUE.1 ev_PUBCOMP u22a (i := 7) (by decide)), (own_elV ev_BY_VALUE Ar_BY_VALUE.1 ev_SUBSCRIBE u30a (i := 8) (by decide)), (own_elV ev_BY_VALUE Ar_BY_VALUE.1 ev_SUBACK u46a (i := 9) (by decide)), (own_elV ev_BY_VALUE Ar_BY_VALUE.1 ev_UNSUBSCRIBE u62a (i := 10) (by decide)), (own_elV ev_BY_VALUE Ar_BY_VALUE.1 ev_UNSUBACK u42a (i := 11) (by decide)), (own_elV ev_BY_VALUE Ar_BY_VALUE.1 ev_PINGREQ u38a (i := 12) (by decide)), (own_elV ev_BY_VALUE Ar_BY_VALUE.1 ev_PINGRESP u54a (i := 13) (by decide)), (own_elV ev_BY_VALUE Ar_BY_VALUE.1 ev_DISCONNECT u18a (i := 14) (by decide)), (own_elV ev_BY_VALUE Ar_BY_VALUE.1 ev_AUTH u26a (i := 15) (by decide)), trivial⟩⟩, (own_fI ev_CONNECT u2a), (own_fI ev_CONNECT u3a), (own_fI ev_PUBACK u8a), (own_fI ev_PUBACK u9a), (own_fI ev_PUBREL u12a), (own_fI ev_PUBREL u13a), (own_fI ev_DISCONNECT u16a), (own_fI ev_DISCONNECT u17a), (own_fI ev_PUBCOMP u20a), (own_fI ev_PUBCOMP u21a), (own_fI ev_AUTH u24a), (own_fI ev_AUTH u25a), (own_fI ev_SUBSCRIBE u28a), (own_fI ev_SUBSCRIBE u29a), (own_fI ev_PUBLISH u32a), (own_fI ev_PUBLISH u33a), (own_fI ev_PINGREQ u36a), (own_fI ev_PINGREQ u37a), (own_fI ev_UNSUBACK u40a), (own_fI ev_UNSUBACK u41a), (own_fI ev_SUBACK u44a), (own_fI ev_SUBACK u45a), (own_fI ev_CONNACK u48a), (own_fI ev_CONNACK u49a), (own_fI ev_PINGRESP u52a), (own_fI ev_PINGRESP u53a), (own_fI ev_PUBREC u56a), (own_fI ev_PUBREC u57a), (own_fI ev_UNSUBSCRIBE u60a), (own_fI ev_UNSUBSCRIBE u61a)⟩ s.heap (own_xr _) p e ha hc hk s m _ below hf ((Spec.applies_iff_loose hf).mp happ).1 ⟨rfl, State.Warmed39.refl s, rfl⟩ trivial
  refine ⟨n, _, h1, h2, h3, hpost _ _ _ _ _ _ ⟨Cond.after_iff.mpr rfl, Cond.after_iff.mpr (eq_i res_at (Term.int_eval (1)) rfl), trivial⟩ ⟨hq.1, hq.2.1, (hq.2.2.sift fun y hy => Or.inr (N y hy)).mono (by decide) (by decide)⟩⟩
theorem main_1_1 : Claimed_1_1 := comes_1 fun _ _ _ _ _ _ h hF => ⟨h.1, hF⟩
theorem main_1_2 : Claimed_1_2 := comes_1 fun _ _ _ _ _ _ h hF => ⟨h.2.1, hF⟩
end Jvm.Pilot.@@N@@
namespace Jvm.Pilot.@@N@@
open Jvm Jvm.ClassFile Sem Op Lib Jvm.Free Jvm.Stand Jvm.Pilot.@@N@@.Jvm.D
/-! MADE BY PROGRAM (witnessworld.py) out of the Statement's table words and the real class files: 13 classes; the members and pool entries that the words name. The judged class is class 1, her method 1. -/
namespace start1
open Jvm.ClassFile
def u (s : String) : CpInfo := .utf8 (stringToUtf16 s)
/-- a pool by its gaps: so many unusable entries, then the entry; so many at the end -/
def gap : Nat → List CpInfo → List CpInfo
  | 0, r => r
  | n + 1, r => .unusable :: gap n r
def poolList (es : List (Nat × CpInfo)) (last : Nat) : List CpInfo := es.foldr (fun e r => gap e.1 (e.2 :: r)) (gap last [])
def pool (es : List (Nat × CpInfo)) (last : Nat) : Array CpInfo := ⟨poolList es last⟩
def fileOf (pool : Array CpInfo) (this : Nat) (attrs : Array Attribute := #[]) (ms : Array MethodInfo := #[]) (fl : Nat := 33) (sup : Nat := 0) (ifs : Array Nat := #[]) (fds : Array FieldInfo := #[]) : ClassFile where
  minorVersion := 0
  majorVersion := 65
  constantPool := pool
  accessFlags := fl
  thisClass := this
  superClass := sup
  interfaces := ifs
  fields := fds
  methods := ms
  attributes := attrs
def plain (name : String) (sup : Option ClassId) : Class where
  name := name
  kind := .ordinary
  loader := none
  accessFlags := 33
  super := sup
  interfaces := #[]
  cf := none
  fields := #[]
  methods := #[]
  instanceTypes := #[]
  staticTypes := #[]
  resolved := #[]
  callSites := []
  init := .initialized
  statics := none
  mirror := none

def pool0 : Array CpInfo := pool [(5, u "<init>"), (0, u "()V"), (1, .class_ 10), (1, u "java/lang/Object")] 113

def k0m0 : Method := { name := "<init>", desc := "()V", sig := { parameters := [], returnType := none }, accessFlags := 1, code := none }
/-- java/lang/Object -/
def k0 : Class := { plain "java/lang/Object" none with
  accessFlags := 33
  interfaces := #[]
  cf := some (fileOf pool0 8 #[] #[{ accessFlags := 1, nameIndex := 5, descriptorIndex := 6, attributes := #[] }] 33 0 #[] #[])
  fields := #[]
  methods := #[k0m0]
  instanceTypes := #[]
  staticTypes := #[]
  resolved := Array.replicate 124 none
  statics := none }

def pool1 : Array CpInfo := pool [(2, .class_ 4), (1, u "java/lang/Object"), (0, u "<init>"), (0, u "()V"), (0, .integer 2147483647), (0, .fieldref 9 10), (0, .class_ 11), (0, .nameAndType 12 13), (0, u "com/example/ferrybus/ferrybus/codec/PacketType"), (0, u "CONNECT"), (0, u "Lcom/example/ferrybus/ferrybus/codec/PacketType;"), (0, .fieldref 9 15), (0, .nameAndType 16 13), (0, u "CONNACK"), (0, .fieldref 9 18), (0, .nameAndType 19 13), (0, u "PUBLISH"), (0, .fieldref 9 21), (0, .nameAndType 22 13), (0, u "PUBACK"), (0, .fieldref 9 24), (0, .nameAndType 25 13), (0, u "PUBREC"), (0, .fieldref 9 27), (0, .nameAndType 28 13), (0, u "PUBREL"), (0, .fieldref 9 30), (0, .nameAndType 31 13), (0, u "PUBCOMP"), (0, .fieldref 9 33), (0, .nameAndType 34 13), (0, u "SUBSCRIBE"), (0, .fieldref 9 36), (0, .nameAndType 37 13), (0, u "SUBACK"), (0, .fieldref 9 39), (0, .nameAndType 40 13), (0, u "UNSUBSCRIBE"), (0, .fieldref 9 42), (0, .nameAndType 43 13), (0, u "UNSUBACK"), (0, .fieldref 9 45), (0, .nameAndType 46 13), (0, u "PINGREQ"), (0, .fieldref 9 48), (0, .nameAndType 49 13), (0, u "PINGRESP"), (0, .fieldref 9 51), (0, .nameAndType 52 13), (0, u "DISCONNECT"), (0, .fieldref 9 54), (0, .nameAndType 55 13), (0, u "AUTH"), (0, .methodref 9 57), (0, .nameAndType 58 59), (0, u "firstByte"), (0, u "()I"), (0, .methodref 9 61), (0, .nameAndType 62 63), (0, u "of"), (0, u "(I)Lcom/example/ferrybus/ferrybus/codec/PacketType;"), (0, .methodref 9 65), (0, .nameAndType 66 67), (0, u "allows"), (0, u "(I)Z"), (0, .class_ 69), (0, u "com/example/ferrybus/ferrybus/codec/PacketTypeFirstBytePinLaw"), (2, u "law")] 3

def k1m0 : Method := { name := "<init>", desc := "()V", sig := { parameters := [], returnType := none }, accessFlags := 1, code := none }
def k1c1 : Code := { maxStack := 3, maxLocals := 5, code := code, exceptionTable := #[], attributes := #[] }
def k1m1 : Method := { name := "law", desc := "(I)Z", sig := { parameters := [.int], returnType := some .boolean }, accessFlags := 9, code := some k1c1 }
/-- com/example/ferrybus/ferrybus/codec/PacketTypeFirstBytePinLaw -/
def k1 : Class := { plain "com/example/ferrybus/ferrybus/codec/PacketTypeFirstBytePinLaw" (some 0) with
  accessFlags := 49
  interfaces := #[]
  cf := some (fileOf pool1 68 #[] #[{ accessFlags := 1, nameIndex := 5, descriptorIndex := 6, attributes := #[] }, { accessFlags := 9, nameIndex := 72, descriptorIndex := 67, attributes := #[] }] 49 2 #[] #[])
  fields := #[]
  methods := #[k1m0, k1m1]
  instanceTypes := #[]
  staticTypes := #[]
  resolved := Array.replicate 76 none
  statics := none }

def pool2 : Array CpInfo := pool [(1, .class_ 2), (0, u "java/lang/constant/Constable"), (0, .class_ 4), (0, u "java/lang/Object")] 6

/-- java/lang/constant/Constable -/
def k2 : Class := { plain "java/lang/constant/Constable" (some 0) with
  accessFlags := 1537
  interfaces := #[]
  cf := some (fileOf pool2 1 #[] #[] 1537 3 #[] #[])
  fields := #[]
  methods := #[]
  instanceTypes := #[]
  staticTypes := #[]
  resolved := Array.replicate 11 none
  statics := none }

def pool3 : Array CpInfo := pool [(1, .class_ 2), (0, u "java/lang/Comparable"), (0, .class_ 4), (0, u "java/lang/Object")] 7

/-- java/lang/Comparable -/
def k3 : Class := { plain "java/lang/Comparable" (some 0) with
  accessFlags := 1537
  interfaces := #[]
  cf := some (fileOf pool3 1 #[] #[] 1537 3 #[] #[])
  fields := #[]
  methods := #[]
  instanceTypes := #[]
  staticTypes := #[]
  resolved := Array.replicate 12 none
  statics := none }

def pool4 : Array CpInfo := pool [(1, .class_ 2), (0, u "java/io/Serializable"), (0, .class_ 4), (0, u "java/lang/Object")] 2

/-- java/io/Serializable -/
def k4 : Class := { plain "java/io/Serializable" (some 0) with
  accessFlags := 1537
  interfaces := #[]
  cf := some (fileOf pool4 1 #[] #[] 1537 3 #[] #[])
  fields := #[]
  methods := #[]
  instanceTypes := #[]
  staticTypes := #[]
  resolved := Array.replicate 7 none
  statics := none }

def pool5 : Array CpInfo := pool [(2, .class_ 4), (1, u "java/lang/Enum"), (0, u "name"), (0, u "Ljava/lang/String;"), (2, u "ordinal"), (0, u "I"), (1, .class_ 14), (1, u "java/lang/Object"), (4, u "hash"), (86, .class_ 108), (1, u "java/lang/Enum$EnumDesc"), (2, .class_ 112), (0, u "java/lang/constant/Constable"), (0, .class_ 114), (0, u "java/lang/Comparable"), (0, .class_ 116), (0, u "java/io/Serializable")] 87

/-- java/lang/Enum -/
def k5 : Class := { plain "java/lang/Enum" (some 0) with
  accessFlags := 1057
  interfaces := #[2, 3, 4]
  cf := some (fileOf pool5 2 #[.nestMembers #[106]] #[] 1057 12 #[111, 113, 115] #[{ accessFlags := 18, nameIndex := 5, descriptorIndex := 6, attributes := #[] }, { accessFlags := 18, nameIndex := 9, descriptorIndex := 10, attributes := #[] }, { accessFlags := 2, nameIndex := 19, descriptorIndex := 10, attributes := #[] }])
  fields := #[{ name := "name", type := (.object "java/lang/String"), accessFlags := 18, slot := 0, constantValue := 0 }, { name := "ordinal", type := .int, accessFlags := 18, slot := 1, constantValue := 0 }, { name := "hash", type := .int, accessFlags := 2, slot := 2, constantValue := 0 }]
  methods := #[]
  instanceTypes := #[(.object "java/lang/String"), .int, .int]
  staticTypes := #[]
  resolved := Array.replicate 204 none
  statics := none }

def pool6 : Array CpInfo := pool [(1, .class_ 2), (0, u "com/example/ferrybus/ferrybus/codec/PacketType"), (2, u "CONNECT"), (0, u "Lcom/example/ferrybus/ferrybus/codec/PacketType;"), (2, u "CONNACK"), (2, u "PUBLISH"), (2, u "PUBACK"), (2, u "PUBREC"), (2, u "PUBREL"), (2, u "PUBCOMP"), (2, u "SUBSCRIBE"), (2, u "SUBACK"), (2, u "UNSUBSCRIBE"), (2, u "UNSUBACK"), (2, u "PINGREQ"), (2, u "PINGRESP"), (2, u "DISCONNECT"), (2, u "AUTH"), (2, u "$VALUES"), (0, u "[Lcom/example/ferrybus/ferrybus/codec/PacketType;"), (6, .class_ 61), (1, u "java/lang/Enum"), (6, .fieldref 1 69), (0, .nameAndType 70 71), (0, u "value"), (0, u "I"), (0, .fieldref 1 73), (0, .nameAndType 74 71), (0, u "flags"), (0, .fieldref 1 76), (0, .nameAndType 77 52), (0, u "BY_VALUE"), (25, u "PUBLISH_DUP"), (2, u "PUBLISH_RETAIN"), (1, u "PUBLISH_QOS_SHIFT"), (0, u "FLAGS_VARY"), (7, u "of"), (0, u "(I)Lcom/example/ferrybus/ferrybus/codec/PacketType;"), (0, u "allows"), (0, u "(I)Z"), (1, u "firstByte"), (0, u "()I")] 5

def k6c0 : Code := { maxStack := 3, maxLocals := 1, code := prog_32_method_4_code, exceptionTable := #[], attributes := #[] }
def k6m0 : Method := { name := "of", desc := "(I)Lcom/example/ferrybus/ferrybus/codec/PacketType;", sig := { parameters := [.int], returnType := some (.object "com/example/ferrybus/ferrybus/codec/PacketType") }, accessFlags := 8, code := some k6c0 }
def k6c1 : Code := { maxStack := 2, maxLocals := 2, code := prog_32_method_5_code, exceptionTable := #[], attributes := #[] }
def k6m1 : Method := { name := "allows", desc := "(I)Z", sig := { parameters := [.int], returnType := some .boolean }, accessFlags := 0, code := some k6c1 }
def k6c2 : Code := { maxStack := 3, maxLocals := 1, code := prog_32_method_6_code, exceptionTable := #[], attributes := #[] }
def k6m2 : Method := { name := "firstByte", desc := "()I", sig := { parameters := [], returnType := some .int }, accessFlags := 0, code := some k6c2 }
/-- com/example/ferrybus/ferrybus/codec/PacketType -/
def k6 : Class := { plain "com/example/ferrybus/ferrybus/codec/PacketType" (some 5) with
  accessFlags := 16432
  interfaces := #[]
  cf := some (fileOf pool6 1 #[] #[{ accessFlags := 8, nameIndex := 117, descriptorIndex := 118, attributes := #[] }, { accessFlags := 0, nameIndex := 119, descriptorIndex := 120, attributes := #[] }, { accessFlags := 0, nameIndex := 122, descriptorIndex := 123, attributes := #[] }] 16432 59 #[] #[{ accessFlags := 16409, nameIndex := 5, descriptorIndex := 6, attributes := #[] }, { accessFlags := 16409, nameIndex := 9, descriptorIndex := 6, attributes := #[] }, { accessFlags := 16409, nameIndex := 12, descriptorIndex := 6, attributes := #[] }, { accessFlags := 16409, nameIndex := 15, descriptorIndex := 6, attributes := #[] }, { accessFlags := 16409, nameIndex := 18, descriptorIndex := 6, attributes := #[] }, { accessFlags := 16409, nameIndex := 21, descriptorIndex := 6, attributes := #[] }, { accessFlags := 16409, nameIndex := 24, descriptorIndex := 6, attributes := #[] }, { accessFlags := 16409, nameIndex := 27, descriptorIndex := 6, attributes := #[] }, { accessFlags := 16409, nameIndex := 30, descriptorIndex := 6, attributes := #[] }, { accessFlags := 16409, nameIndex := 33, descriptorIndex := 6, attributes := #[] }, { accessFlags := 16409, nameIndex := 36, descriptorIndex := 6, attributes := #[] }, { accessFlags := 16409, nameIndex := 39, descriptorIndex := 6, attributes := #[] }, { accessFlags := 16409, nameIndex := 42, descriptorIndex := 6, attributes := #[] }, { accessFlags := 16409, nameIndex := 45, descriptorIndex := 6, attributes := #[] }, { accessFlags := 16409, nameIndex := 48, descriptorIndex := 6, attributes := #[] }, { accessFlags := 24, nameIndex := 103, descriptorIndex := 71, attributes := #[] }, { accessFlags := 24, nameIndex := 106, descriptorIndex := 71, attributes := #[] }, { accessFlags := 24, nameIndex := 108, descriptorIndex := 71, attributes := #[] }, { accessFlags := 26, nameIndex := 109, descriptorIndex := 71, attributes := #[] }, { accessFlags := 26, nameIndex := 77, descriptorIndex := 52, attributes := #[] }, { accessFlags := 18, nameIndex := 70, descriptorIndex := 71, attributes := #[] }, { accessFlags := 18, nameIndex := 74, descriptorIndex := 71, attributes := #[] }, { accessFlags := 4122, nameIndex := 51, descriptorIndex := 52, attributes := #[] }])
  fields := #[{ name := "CONNECT", type := (.object "com/example/ferrybus/ferrybus/codec/PacketType"), accessFlags := 16409, slot := 0, constantValue := 0 }, { name := "CONNACK", type := (.object "com/example/ferrybus/ferrybus/codec/PacketType"), accessFlags := 16409, slot := 1, constantValue := 0 }, { name := "PUBLISH", type := (.object "com/example/ferrybus/ferrybus/codec/PacketType"), accessFlags := 16409, slot := 2, constantValue := 0 }, { name := "PUBACK", type := (.object "com/example/ferrybus/ferrybus/codec/PacketType"), accessFlags := 16409, slot := 3, constantValue := 0 }, { name := "PUBREC", type := (.object "com/example/ferrybus/ferrybus/codec/PacketType"), accessFlags := 16409, slot := 4, constantValue := 0 }, { name := "PUBREL", type := (.object "com/example/ferrybus/ferrybus/codec/PacketType"), accessFlags := 16409, slot := 5, constantValue := 0 }, { name := "PUBCOMP", type := (.object "com/example/ferrybus/ferrybus/codec/PacketType"), accessFlags := 16409, slot := 6, constantValue := 0 }, { name := "SUBSCRIBE", type := (.object "com/example/ferrybus/ferrybus/codec/PacketType"), accessFlags := 16409, slot := 7, constantValue := 0 }, { name := "SUBACK", type := (.object "com/example/ferrybus/ferrybus/codec/PacketType"), accessFlags := 16409, slot := 8, constantValue := 0 }, { name := "UNSUBSCRIBE", type := (.object "com/example/ferrybus/ferrybus/codec/PacketType"), accessFlags := 16409, slot := 9, constantValue := 0 }, { name := "UNSUBACK", type := (.object "com/example/ferrybus/ferrybus/codec/PacketType"), accessFlags := 16409, slot := 10, constantValue := 0 }, { name := "PINGREQ", type := (.object "com/example/ferrybus/ferrybus/codec/PacketType"), accessFlags := 16409, slot := 11, constantValue := 0 }, { name := "PINGRESP", type := (.object "com/example/ferrybus/ferrybus/codec/PacketType"), accessFlags := 16409, slot := 12, constantValue := 0 }, { name := "DISCONNECT", type := (.object "com/example/ferrybus/ferrybus/codec/PacketType"), accessFlags := 16409, slot := 13, constantValue := 0 }, { name := "AUTH", type := (.object "com/example/ferrybus/ferrybus/codec/PacketType"), accessFlags := 16409, slot := 14, constantValue := 0 }, { name := "PUBLISH_DUP", type := .int, accessFlags := 24, slot := 15, constantValue := 0 }, { name := "PUBLISH_RETAIN", type := .int, accessFlags := 24, slot := 16, constantValue := 0 }, { name := "PUBLISH_QOS_SHIFT", type := .int, accessFlags := 24, slot := 17, constantValue := 0 }, { name := "FLAGS_VARY", type := .int, accessFlags := 26, slot := 18, constantValue := 0 }, { name := "BY_VALUE", type := (.array (.object "com/example/ferrybus/ferrybus/codec/PacketType")), accessFlags := 26, slot := 19, constantValue := 0 }, { name := "value", type := .int, accessFlags := 18, slot := 3, constantValue := 0 }, { name := "flags", type := .int, accessFlags := 18, slot := 4, constantValue := 0 }, { name := "$VALUES", type := (.array (.object "com/example/ferrybus/ferrybus/codec/PacketType")), accessFlags := 4122, slot := 20, constantValue := 0 }]
  methods := #[k6m0, k6m1, k6m2]
  instanceTypes := #[(.object "java/lang/String"), .int, .int, .int, .int]
  staticTypes := #[(.object "com/example/ferrybus/ferrybus/codec/PacketType"), (.object "com/example/ferrybus/ferrybus/codec/PacketType"), (.object "com/example/ferrybus/ferrybus/codec/PacketType"), (.object "com/example/ferrybus/ferrybus/codec/PacketType"), (.object "com/example/ferrybus/ferrybus/codec/PacketType"), (.object "com/example/ferrybus/ferrybus/codec/PacketType"), (.object "com/example/ferrybus/ferrybus/codec/PacketType"), (.object "com/example/ferrybus/ferrybus/codec/PacketType"), (.object "com/example/ferrybus/ferrybus/codec/PacketType"), (.object "com/example/ferrybus/ferrybus/codec/PacketType"), (.object "com/example/ferrybus/ferrybus/codec/PacketType"), (.object "com/example/ferrybus/ferrybus/codec/PacketType"), (.object "com/example/ferrybus/ferrybus/codec/PacketType"), (.object "com/example/ferrybus/ferrybus/codec/PacketType"), (.object "com/example/ferrybus/ferrybus/codec/PacketType"), .int, .int, .int, .int, (.array (.object "com/example/ferrybus/ferrybus/codec/PacketType")), (.array (.object "com/example/ferrybus/ferrybus/codec/PacketType"))]
  resolved := Array.replicate 129 none
  statics := some 0 }

def pool7 : Array CpInfo := pool [(1, u "java/lang/Cloneable"), (0, .class_ 1), (0, u "java/lang/Object"), (0, .class_ 3)] 3

/-- java/lang/Cloneable -/
def k7 : Class := { plain "java/lang/Cloneable" (some 0) with
  accessFlags := 1537
  interfaces := #[]
  cf := some (fileOf pool7 2 #[] #[] 1537 4 #[] #[])
  fields := #[]
  methods := #[]
  instanceTypes := #[]
  staticTypes := #[]
  resolved := Array.replicate 8 none
  statics := none }

/-- the primitive byte -/
def k8 : Class := { plain "byte" none with kind := .primitive 'B', accessFlags := 0x411 }
/-- [B -/
def k9 : Class := { plain "[B" (some 0) with kind := .array 8 .byte, interfaces := #[7, 4], accessFlags := 1041 }

/-- the primitive int -/
def k10 : Class := { plain "int" none with kind := .primitive 'I', accessFlags := 0x411 }
/-- [I -/
def k11 : Class := { plain "[I" (some 0) with kind := .array 10 .int, interfaces := #[7, 4], accessFlags := 1041 }

/-- [Lcom/example/ferrybus/ferrybus/codec/PacketType; -/
def k12 : Class := { plain "[Lcom/example/ferrybus/ferrybus/codec/PacketType;" (some 0) with kind := .array 6 (.object "com/example/ferrybus/ferrybus/codec/PacketType"), interfaces := #[7, 4], accessFlags := 1041 }

def heap : Heap := #[{ cls := 6, slots := #[.ref 2, .ref 13, .ref 9, .ref 3, .ref 15, .ref 4, .ref 6, .ref 8, .ref 12, .ref 16, .ref 11, .ref 10, .ref 14, .ref 5, .ref 7, .int 0, .int 0, .int 0, .int 0, .ref 1, .null], vm := .statics 6 },
  { cls := 12, slots := #[.null, .ref 2, .ref 13, .ref 9, .ref 3, .ref 15, .ref 4, .ref 6, .ref 8, .ref 12, .ref 16, .ref 11, .ref 10, .ref 14, .ref 5, .ref 7], vm := .none },
  { cls := 6, slots := #[.null, .int 0, .int 0, .int 1, .int 0], vm := .none },
  { cls := 6, slots := #[.null, .int 0, .int 0, .int 4, .int 0], vm := .none },
  { cls := 6, slots := #[.null, .int 0, .int 0, .int 6, .int 2], vm := .none },
  { cls := 6, slots := #[.null, .int 0, .int 0, .int 14, .int 0], vm := .none },
  { cls := 6, slots := #[.null, .int 0, .int 0, .int 7, .int 0], vm := .none },
  { cls := 6, slots := #[.null, .int 0, .int 0, .int 15, .int 0], vm := .none },
  { cls := 6, slots := #[.null, .int 0, .int 0, .int 8, .int 2], vm := .none },
  { cls := 6, slots := #[.null, .int 0, .int 0, .int 3, .int (-1)], vm := .none },
  { cls := 6, slots := #[.null, .int 0, .int 0, .int 12, .int 0], vm := .none },
  { cls := 6, slots := #[.null, .int 0, .int 0, .int 11, .int 0], vm := .none },
  { cls := 6, slots := #[.null, .int 0, .int 0, .int 9, .int 0], vm := .none },
  { cls := 6, slots := #[.null, .int 0, .int 0, .int 2, .int 0], vm := .none },
  { cls := 6, slots := #[.null, .int 0, .int 0, .int 13, .int 0], vm := .none },
  { cls := 6, slots := #[.null, .int 0, .int 0, .int 5, .int 0], vm := .none },
  { cls := 6, slots := #[.null, .int 0, .int 0, .int 10, .int 2], vm := .none }]
def classes : Array Class := #[k0, k1, k2, k3, k4, k5, k6, k7, k8, k9, k10, k11, k12]
def interned : List (Array UInt16 × Addr) := []
def slotsUsed : Nat := 112
def theMethod : MethodId := ⟨1, 1⟩
def args0 : Array Value := #[.int 5]
def aboutOver (below : List Frame) : State where
  vm := { classes := classes, interned := interned.toArray }
  heap := heap
  slotsUsed := slotsUsed
  threads := #[{ frames := .invoking theMethod args0 :: below }]
def below0 : List Frame := [.native { method := ⟨0, 0⟩, args := #[] }]
def about1 : State := aboutOver below0
def p0 : Program := .bare "" "" ""
def e0 : Env := launch0.env 0 0 0
theorem w_frames : about1.frames = Frame.invoking theMethod args0 :: below0 := rfl
set_option maxRecDepth 65536 in
theorem w_args : argsFit about1.vm theMethod args0 = true := by decide +kernel
set_option maxRecDepth 65536 in
theorem w_heap : heapFits about1 = true := by decide +kernel
set_option maxRecDepth 65536 in
theorem w_runnable : about1.curStatus? = some .runnable := by decide +kernel
set_option maxRecDepth 65536 in
theorem w_alone : about1.alone = true := by decide +kernel
set_option maxRecDepth 65536 in
theorem w_named : about1.methodNamed? x = some theMethod := by decide +kernel
set_option maxRecDepth 65536 in
theorem w_hears : about1.hears theMethod below0 = true := by decide +kernel
set_option maxRecDepth 65536 in
theorem w_ripe : about1.ripe theMethod args0 below0 = true := by decide +kernel
theorem w_running : about1.status = .running := rfl
set_option maxRecDepth 65536 in
theorem w_room : about1.hasRoom e0.platform room_1 = true :=
  launch0.hasRoom_least _ room_1 (by decide +kernel) (by decide +kernel) (by decide +kernel) (by decide +kernel) (by decide +kernel) (by decide +kernel)
theorem allAtoms_all (ts : List Jvm.Cond) (a : Array Jvm.Value) (st : Jvm.State) : (allAtoms ts).before a st = ts.all (fun c => c.before a st) := by
  induction ts with
  | nil => rfl
  | cons c t ih =>
    show (Jvm.Cond.and c (allAtoms t)).before a st = _
    rw [Jvm.Cond.before_and, ih, List.all_cons]
def words1 : List Jvm.Cond := Jvm.Cond.code x code maxLocals ret :: tables_1
/-- a 'code' word, met by the world's own term for the bytes: nothing is compared byte by byte -/
theorem code_word {y : MethodName} {bytes : ByteArray} {mx : Nat} {rt : Option FieldType} {a : Array Value} {s : State} {m : MethodId} {meth : Method} {c : Code} (h1 : s.methodNamed? y = some m) (h2 : s.vm.method? m = some meth) (h3 : meth.code = some c) (h4 : c.code = bytes)
    (h5 : (c.maxLocals == mx && c.exceptionTable.isEmpty && decide (c.maxStack ≤ mostOperands) && decide (meth.sig.returnType = rt) && !meth.locks && decide (parseMethodDescriptor y.desc = some meth.sig)) = true) : (Jvm.Cond.code y bytes mx rt).before a s = true := by
  simp only [Bool.and_eq_true, beq_iff_eq, Bool.not_eq_true', decide_eq_true_eq] at h5
  obtain ⟨⟨⟨⟨⟨g1, g2⟩, g3⟩, g4⟩, g5⟩, g6⟩ := h5
  simp [Cond.before, Cond.holds, Cond.value, h1, h2, h3, h4, g1, g2, g3, g4, g5, g6]
def isCode : Jvm.Cond → Bool
  | .code _ _ _ _ => true
  | _ => false
theorem all_split {L : List Jvm.Cond} {P : Jvm.Cond → Bool} (h1 : L.all (fun c => isCode c || P c) = true) (h2 : ∀ c ∈ L.filter isCode, P c = true) : L.all P = true := by
  refine List.all_eq_true.mpr fun c hc => ?_
  have h := List.all_eq_true.mp h1 c hc
  rcases Bool.eq_false_or_eq_true (isCode c) with hi | hi
  · exact h2 c (List.mem_filter.mpr ⟨hc, hi⟩)
  · simpa [hi] using h
set_option maxRecDepth 65536 in
theorem w_c0 : (Jvm.Cond.code x code maxLocals ret).before args0 about1 = true := code_word (m := ⟨1, 1⟩) (meth := k1m1) (c := k1c1) (by decide +kernel) rfl rfl rfl (by decide +kernel)
set_option maxRecDepth 65536 in
theorem w_c1 : (Jvm.Cond.code ({ cls := "com/example/ferrybus/ferrybus/codec/PacketType", name := "firstByte", desc := "()I" } : Jvm.MethodName) prog_32_method_6_code (1 : Nat) (Option.some Jvm.ClassFile.FieldType.int)).before args0 about1 = true := code_word (m := ⟨6, 2⟩) (meth := k6m2) (c := k6c2) (by decide +kernel) rfl rfl rfl (by decide +kernel)
set_option maxRecDepth 65536 in
theorem w_c2 : (Jvm.Cond.code ({ cls := "com/example/ferrybus/ferrybus/codec/PacketType", name := "of", desc := "(I)Lcom/example/ferrybus/ferrybus/codec/PacketType;" } : Jvm.MethodName) prog_32_method_4_code (1 : Nat) (Option.some (Jvm.ClassFile.FieldType.object "com/example/ferrybus/ferrybus/codec/PacketType"))).before args0 about1 = true := code_word (m := ⟨6, 0⟩) (meth := k6m0) (c := k6c0) (by decide +kernel) rfl rfl rfl (by decide +kernel)
set_option maxRecDepth 65536 in
theorem w_c3 : (Jvm.Cond.code ({ cls := "com/example/ferrybus/ferrybus/codec/PacketType", name := "allows", desc := "(I)Z" } : Jvm.MethodName) prog_32_method_5_code (2 : Nat) (Option.some Jvm.ClassFile.FieldType.boolean)).before args0 about1 = true := code_word (m := ⟨6, 1⟩) (meth := k6m1) (c := k6c1) (by decide +kernel) rfl rfl rfl (by decide +kernel)
def codes1 : List Jvm.Cond := [Jvm.Cond.code x code maxLocals ret, Jvm.Cond.code ({ cls := "com/example/ferrybus/ferrybus/codec/PacketType", name := "firstByte", desc := "()I" } : Jvm.MethodName) prog_32_method_6_code (1 : Nat) (Option.some Jvm.ClassFile.FieldType.int), Jvm.Cond.code ({ cls := "com/example/ferrybus/ferrybus/codec/PacketType", name := "of", desc := "(I)Lcom/example/ferrybus/ferrybus/codec/PacketType;" } : Jvm.MethodName) prog_32_method_4_code (1 : Nat) (Option.some (Jvm.ClassFile.FieldType.object "com/example/ferrybus/ferrybus/codec/PacketType")), Jvm.Cond.code ({ cls := "com/example/ferrybus/ferrybus/codec/PacketType", name := "allows", desc := "(I)Z" } : Jvm.MethodName) prog_32_method_5_code (2 : Nat) (Option.some Jvm.ClassFile.FieldType.boolean)]
set_option maxRecDepth 65536 in
theorem codes_eq : words1.filter isCode = codes1 := rfl
theorem w_codes : ∀ c ∈ words1.filter isCode, c.before args0 about1 = true := by
  rw [codes_eq]
  intro c hc
  simp only [codes1, List.mem_cons, List.not_mem_nil, or_false] at hc
  rcases hc with rfl | rfl | rfl | rfl
  · exact w_c0
  · exact w_c1
  · exact w_c2
  · exact w_c3
set_option maxRecDepth 65536 in
theorem w_t1 : (words1.take 24).all (fun c => isCode c || c.before args0 about1) = true := by decide +kernel
set_option maxRecDepth 65536 in
theorem w_t2 : ((words1.drop 24).take 24).all (fun c => isCode c || c.before args0 about1) = true := by decide +kernel
set_option maxRecDepth 65536 in
theorem w_t3 : ((words1.drop 24).drop 24).all (fun c => isCode c || c.before args0 about1) = true := by decide +kernel
theorem w_tables : (allAtoms (Jvm.Cond.code x code maxLocals ret :: tables_1)).before args0 about1 = true := by
  rw [allAtoms_all]
  show words1.all (fun c => c.before args0 about1) = true
  refine all_split ?_ w_codes
  rw [← List.take_append_drop 24 words1, List.all_append, w_t1, ← List.take_append_drop 24 (words1.drop 24), List.all_append, w_t2, w_t3]
  rfl
set_option maxRecDepth 65536 in
theorem w_case : (Jvm.Cond.and given_1 narrow_1).before args0 about1 = true := by decide +kernel
theorem w_applies : (headSpec (Jvm.Cond.code x code maxLocals ret :: tables_1) room_1).applies x e0.platform about1 = true :=
  (Spec.applies_iff w_frames).mpr ⟨w_running, w_runnable, w_alone, w_named, w_hears, w_ripe, w_room, w_tables⟩
theorem atStart : AtStart classFile x code maxLocals ret World_1 tables_1 room_1 Calls_1 rest_1 Pre_1 launch0 p0 e0 about1 theMethod args0 below0 :=
  ⟨lists_1, trivial, launch0.admits_env _ _ _, launch0.least_env, fairChoices_fair.cas, fairChoices_fair.clock, w_frames, w_args, w_heap, w_applies, trivial, trivial, w_case⟩
end start1
theorem witness_1 : WitnessClaimed_1 := ⟨start1.p0, start1.e0, start1.about1, start1.theMethod, start1.args0, start1.below0, start1.atStart⟩
end Jvm.Pilot.@@N@@
