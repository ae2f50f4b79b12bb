import JvmDerived
import JvmDerived.Pilot.@@N@@Statement
import JvmDerived.Pilot.@@N@@Code
set_option linter.unusedVariables false
set_option linter.unusedSimpArgs false
namespace Jvm.Pilot.@@N@@
open Jvm Jvm.ClassFile Sem Op Lib Jvm.Free Jvm.Stand Jvm.LawKit Jvm.RoadKit Bundle Jvm.Pilot.@@N@@.Jvm.D
section OwnRet
variable {p : Program} {l : Launch} {e : Env} {R : Room} {s : State} {m : MethodId} {args : Array Value} {below : List Frame} {meth : Method} {c : Code} {T : State} {locs : List Loc} {cells slots : Nat}
theorem own_retN (X : Stand p l e R s m args below meth c T locs cells slots) (hx : p.tables.exec = Jvm.exec) {pc : Nat} {Ls : Array Slot} {z : Int32} {t : FieldType} {rest : List Value} (hret : meth.sig.returnType = some t) (ht : t = .boolean ∨ t = .byte ∨ t = .char ∨ t = .short) (hz : nar t z = z)
    (hd : decode c.code pc = .ok (.ireturn, 1)) {fs : List Frame} (hl : ∀ (f : JFrame) (acts : List Action), f.method = m → f.locked = none → f.entered = [] → (doReturn e (T.setTop f) acts (some (.int z))).1 = T.setFrames fs) :
    Steps p.tables e below (T.setTop (mkF m pc Ls (.int z :: rest))) (T.setFrames fs) := retN X hx hret ht hd (by rw [hz]; exact hl)
theorem own_nb {z : Int32} (h : z = 0 ∨ z = 1) : nar .boolean z = z := by rcases h with rfl | rfl <;> rfl
end OwnRet
theorem own_len {s : State} {args : Array Value} {t : Term} {a : Addr} {cl : Cell} {n : Int32} (ev : t.eval args s none [] s = some (.ref a)) (ha : s.arrayAt? a = some cl) (h : (Term.length t).eval args s none [] s = some (.int n)) : cl.slots.size < 2 ^ 31 ∧ cl.slots.size.toInt32 = n := by
  by_cases hl : cl.slots.size < 2 ^ 31
  · exact ⟨hl, Value.int.inj (Option.some.inj ((len_f ev ha hl).symm.trans h))⟩
  · simp [Term.eval, ev, ha, hl] at h
def own_isI (Z : State) (v : Value) : Prop := ∃ r : Addr, v = .ref r ∧ Exa Z Z.heap r "java/lang/Integer"
def own_Chk (Z : State) (h : Heap) (q : Addr) (n0 : Nat) (a : Addr) (sz : Nat) (c : Cell) : Prop :=
  Arr Z h a c (.object "java/lang/Object") ∧ c.slots.size = sz ∧ Ovr Z c.cls "java/lang/Object" ∧ Exa Z h a "[Ljava/lang/Object;" ∧ a ≠ q ∧ n0 ≤ a ∧ 2 ≤ sz ∧ sz ≤ 8
theorem own_Chk.lt {Z : State} {h : Heap} {q : Addr} {n0 : Nat} {a : Addr} {sz : Nat} {c : Cell} (F : own_Chk Z h q n0 a sz c) : a < h.size := F.1.lt
theorem own_Chk.same {Z : State} {h h' : Heap} {q : Addr} {n0 : Nat} {a : Addr} {sz : Nat} {c : Cell} (F : own_Chk Z h q n0 a sz c) (e : h'[a]? = some c) : own_Chk Z h' q n0 a sz c := by
  obtain ⟨A, s, o, ⟨cell, k, e1, r⟩, n⟩ := F
  cases A.1.symm.trans e1
  exact ⟨⟨e, A.2⟩, s, o, ⟨c, k, e, r⟩, n⟩
theorem own_Chk.ext {Z : State} {h h' : Heap} {q : Addr} {n0 : Nat} {a : Addr} {sz : Nat} {c : Cell} (F : own_Chk Z h q n0 a sz c) (E : Ext h h') : own_Chk Z h' q n0 a sz c := F.same (E.2 _ _ F.1.1)
theorem own_Chk.keep {Z : State} {h h' : Heap} {q : Addr} {n0 : Nat} {a : Addr} {sz : Nat} {c : Cell} {ws : List Addr} (F : own_Chk Z h q n0 a sz c) (K : Keep h h' ws) (ha : a ∉ ws) : own_Chk Z h' q n0 a sz c := F.same (K.2.1 _ _ F.1.1 ha)
theorem own_Chk.other {Z : State} {h h' : Heap} {q : Addr} {n0 : Nat} {a b : Addr} {sz sl : Nat} {c : Cell} {v : Value} (F : own_Chk Z h q n0 a sz c) (W : Wr h h' b sl v) (hn : a ≠ b) : own_Chk Z h' q n0 a sz c := F.same ((Keep.of_wr W).2.1 _ _ F.1.1 (ninS hn nin0))
theorem own_Chk.set {Z : State} {h h' : Heap} {q : Addr} {n0 : Nat} {a : Addr} {sz sl : Nat} {c : Cell} {v : Value} (F : own_Chk Z h q n0 a sz c) (W : Wr h h' a sl v) : own_Chk Z h' q n0 a sz (c.setSlot sl v) := by
  obtain ⟨A, s, o, e, n⟩ := F
  exact ⟨A.same W, (sz_set _ _ _).trans s, o, e.wr W, n⟩
theorem own_hit {c : Cell} {i : Nat} {v : Value} (h : i < c.slots.size) : (c.setSlot i v).slots[i]? = some v := by simp [Cell.setSlot, h]
theorem own_miss {c : Cell} {i j : Nat} {v : Value} (h : i ≠ j) : (c.setSlot i v).slots[j]? = c.slots[j]? := by simp [Cell.setSlot, h]
def own_Ch (Z : State) (h : Heap) (q : Addr) (n0 : Nat) (t : Addr) (ts ta : Nat) : List (Addr × Nat) → Nat → Addr → Nat → Prop
  | [], lo, a, sz => a = t ∧ sz = ts ∧ ∃ c, own_Chk Z h q n0 a sz c ∧ ∀ i, lo ≤ i → i < ta → ∃ v, c.slots[i]? = some v ∧ own_isI Z v
  | (b, bs) :: r, lo, a, sz => lo < sz - 1 ∧ (∀ x ∈ b :: r.map Prod.fst, a ≠ x) ∧ (∃ c, own_Chk Z h q n0 a sz c ∧ (∀ i, lo ≤ i → i < sz - 1 → ∃ v, c.slots[i]? = some v ∧ own_isI Z v) ∧ c.slots[sz - 1]? = some (.ref b)) ∧ own_Ch Z h q n0 t ts ta r 0 b bs
def own_cnt (ta : Nat) : List (Addr × Nat) → Nat → Nat → Nat
  | [], lo, _ => ta - lo
  | (_, bs) :: r, lo, sz => (sz - 1 - lo) + own_cnt ta r 0 bs
section Chain
variable {Z : State} {h h' : Heap} {q : Addr} {n0 : Nat} {t : Addr} {ts ta : Nat}
theorem own_ch_head : ∀ {r : List (Addr × Nat)} {lo : Nat} {a : Addr} {sz : Nat}, own_Ch Z h q n0 t ts ta r lo a sz → ∃ c, own_Chk Z h q n0 a sz c
  | [], _, _, _, C => let ⟨_, _, c, F, _⟩ := C; ⟨c, F⟩
  | (_, _) :: _, _, _, _, C => let ⟨_, _, ⟨c, F, _⟩, _⟩ := C; ⟨c, F⟩
theorem own_ch_mem : ∀ {r : List (Addr × Nat)} {lo : Nat} {a : Addr} {sz : Nat}, own_Ch Z h q n0 t ts ta r lo a sz → ∀ x ∈ a :: r.map Prod.fst, ∃ s c, own_Chk Z h q n0 x s c
  | [], _, _, _, C, x, hx => by
    obtain ⟨c, F⟩ := own_ch_head C
    simp only [List.map_nil, List.mem_cons, List.not_mem_nil, or_false] at hx
    subst hx; exact ⟨_, c, F⟩
  | (b, bs) :: r, _, _, _, C, x, hx => by
    rcases List.mem_cons.mp hx with e | e
    · obtain ⟨c, F⟩ := own_ch_head C; subst e; exact ⟨_, c, F⟩
    · exact own_ch_mem C.2.2.2 x e
theorem own_ch_mono : ∀ {r : List (Addr × Nat)} {lo : Nat} {a : Addr} {sz : Nat}, own_Ch Z h q n0 t ts ta r lo a sz → (∀ x ∈ a :: r.map Prod.fst, ∀ c, h[x]? = some c → h'[x]? = some c) → own_Ch Z h' q n0 t ts ta r lo a sz
  | [], _, _, _, C, H => by
    obtain ⟨e1, e2, c, F, G⟩ := C
    exact ⟨e1, e2, c, F.same (H _ (List.mem_cons_self ..) _ F.1.1), G⟩
  | (b, bs) :: r, _, _, _, C, H => by
    obtain ⟨e1, e2, ⟨c, F, G, l⟩, R⟩ := C
    exact ⟨e1, e2, ⟨c, F.same (H _ (List.mem_cons_self ..) _ F.1.1), G, l⟩, own_ch_mono R fun x hx => H x (List.mem_cons_of_mem _ hx)⟩
theorem own_ch_keep {r : List (Addr × Nat)} {lo : Nat} {a : Addr} {sz : Nat} {ws : List Addr} (C : own_Ch Z h q n0 t ts ta r lo a sz) (K : Keep h h' ws) (H : ∀ x ∈ a :: r.map Prod.fst, x ∉ ws) : own_Ch Z h' q n0 t ts ta r lo a sz :=
  own_ch_mono C fun x hx c hc => K.2.1 x c hc (H x hx)
theorem own_ch_tail : ∀ {r : List (Addr × Nat)} {lo : Nat} {a : Addr} {sz : Nat}, own_Ch Z h q n0 t ts ta r lo a sz → t ∈ a :: r.map Prod.fst ∧ ∃ c, own_Chk Z h q n0 t ts c
  | [], _, _, _, C => by
    obtain ⟨e1, e2, c, F, -⟩ := C
    subst e1 e2
    exact ⟨List.mem_cons_self .., c, F⟩
  | (b, bs) :: r, _, _, _, C => by
    obtain ⟨h1, h2⟩ := own_ch_tail C.2.2.2
    exact ⟨List.mem_cons_of_mem _ h1, h2⟩
theorem own_ch_ne {b : Addr} {bs : Nat} {r : List (Addr × Nat)} {lo : Nat} {a : Addr} {sz : Nat} (C : own_Ch Z h q n0 t ts ta ((b, bs) :: r) lo a sz) : a ≠ t := C.2.1 _ (own_ch_tail C.2.2.2).1
theorem own_push {ct : Cell} {v : Value} (K : Keep h h' [t, q]) (hc : h[t]? = some ct) (N : own_Chk Z h' q n0 t ts (ct.setSlot ta v)) (hv : own_isI Z v) (hta : ta < ts) : ∀ {r : List (Addr × Nat)} {lo : Nat} {a : Addr} {sz : Nat}, own_Ch Z h q n0 t ts ta r lo a sz → own_Ch Z h' q n0 t ts (ta + 1) r lo a sz
  | [], lo, a, sz, C => by
    obtain ⟨e1, e2, c, F, G⟩ := C
    subst e1 e2
    cases hc.symm.trans F.1.1
    refine ⟨rfl, rfl, _, N, fun i h1 h2 => ?_⟩
    by_cases e : i = ta
    · subst e; exact ⟨v, own_hit (by rw [F.2.1]; exact hta), hv⟩
    · obtain ⟨w, g1, g2⟩ := G i h1 (by omega)
      exact ⟨w, (own_miss (Ne.symm e)).trans g1, g2⟩
  | (b, bs) :: r, lo, a, sz, C => by
    have hne := own_ch_ne C
    obtain ⟨e1, e2, ⟨c, F, G, l⟩, R⟩ := C
    exact ⟨e1, e2, ⟨c, F.keep K (ninS hne (ninS F.2.2.2.2.1 nin0)), G, l⟩, own_push K hc N hv hta R⟩
theorem own_grow {ct : Cell} {b : Addr} {bs : Nat} (K : Keep h h' [t, q]) (hc : h[t]? = some ct) (N : own_Chk Z h' q n0 t ts (ct.setSlot (ts - 1) (.ref b))) (hb : h.size ≤ b) (B : ∃ cb, own_Chk Z h' q n0 b bs cb ∧ ∃ v, cb.slots[0]? = some v ∧ own_isI Z v) :
    ∀ {r : List (Addr × Nat)} {lo : Nat} {a : Addr} {sz : Nat}, (r = [] → lo < ts - 1) → own_Ch Z h q n0 t ts (ts - 1) r lo a sz → own_Ch Z h' q n0 b bs 1 (r ++ [(b, bs)]) lo a sz
  | [], lo, a, sz, hlo, C => by
    obtain ⟨e1, e2, c, F, G⟩ := C
    subst e1 e2
    cases hc.symm.trans F.1.1
    obtain ⟨cb, F', w, g1, g2⟩ := B
    have hlt := F.lt
    refine ⟨hlo rfl, fun x hx => ?_, ⟨_, N, fun i h1 h2 => ?_, own_hit (by rw [F.2.1]; have := F.2.2.2.2.2.2.1; omega)⟩, rfl, rfl, cb, F', fun i h1 h2 => ?_⟩
    · simp only [List.map_nil, List.mem_cons, List.not_mem_nil, or_false] at hx
      subst hx; exact Nat.ne_of_lt (Nat.lt_of_lt_of_le hlt hb)
    · obtain ⟨u, g3, g4⟩ := G i h1 h2
      exact ⟨u, (own_miss (by omega)).trans g3, g4⟩
    · obtain rfl : i = 0 := by omega
      exact ⟨w, g1, g2⟩
  | (b', bs') :: r, lo, a, sz, hlo, C => by
    have hne := own_ch_ne C
    obtain ⟨e1, e2, ⟨c, F, G, l⟩, R⟩ := C
    have hlt := F.lt
    refine ⟨e1, fun x hx => ?_, ⟨c, F.keep K (ninS hne (ninS F.2.2.2.2.1 nin0)), G, l⟩, own_grow K hc N hb B (fun _ => ?_) R⟩
    · rcases List.mem_cons.mp hx with e | e
      · exact e2 x (by rw [e]; exact List.mem_cons_self ..)
      · have e : x ∈ List.map Prod.fst (r ++ [(b, bs)]) := e
        rw [List.map_append] at e
        rcases List.mem_append.mp e with e | e
        · exact e2 x (List.mem_cons_of_mem _ e)
        · simp only [List.map_cons, List.map_nil, List.mem_cons, List.not_mem_nil, or_false] at e
          subst e; exact Nat.ne_of_lt (Nat.lt_of_lt_of_le hlt hb)
    · obtain ⟨_, h2⟩ := own_ch_tail R
      obtain ⟨cx, Fx⟩ := h2
      have := Fx.2.2.2.2.2.2.1
      omega
theorem own_first {r : List (Addr × Nat)} {lo : Nat} {a : Addr} {sz : Nat} (C : own_Ch Z h q n0 t ts ta r lo a sz) (hta : ta ≤ ts - 1) (hp : 0 < own_cnt ta r lo sz) : ∃ c, own_Chk Z h q n0 a sz c ∧ lo < sz - 1 ∧ ∃ rr : Addr, c.slots[lo]? = some (.ref rr) ∧ Exa Z Z.heap rr "java/lang/Integer" := by
  cases r with
  | nil =>
    obtain ⟨e1, e2, c, F, G⟩ := C
    have hp' : 0 < ta - lo := hp
    obtain ⟨v, g1, rr, rfl, g2⟩ := G lo (Nat.le_refl _) (by omega)
    exact ⟨c, F, by omega, rr, g1, g2⟩
  | cons x r =>
    obtain ⟨e1, e2, ⟨c, F, G, l⟩, R⟩ := C
    obtain ⟨v, g1, rr, rfl, g2⟩ := G lo (Nat.le_refl _) e1
    exact ⟨c, F, e1, rr, g1, g2⟩
theorem own_pop {c : Cell} {r : List (Addr × Nat)} {lo : Nat} {a : Addr} {sz : Nat} (C : own_Ch Z h q n0 t ts ta r lo a sz) (K : Keep h h' [a, q]) (hc : h[a]? = some c) (N : own_Chk Z h' q n0 a sz (c.setSlot lo .null)) (hn : r ≠ [] → lo + 1 < sz - 1) : own_Ch Z h' q n0 t ts ta r (lo + 1) a sz := by
  cases r with
  | nil =>
    obtain ⟨e1, e2, c', F, G⟩ := C
    cases hc.symm.trans F.1.1
    refine ⟨e1, e2, _, N, fun i h1 h2 => ?_⟩
    obtain ⟨u, g3, g4⟩ := G i (by omega) h2
    exact ⟨u, (own_miss (by omega)).trans g3, g4⟩
  | cons x r =>
    obtain ⟨b, bs⟩ := x
    obtain ⟨e1, e2, ⟨c', F, G, l⟩, R⟩ := C
    cases hc.symm.trans F.1.1
    have hlt := hn (by simp)
    refine ⟨hlt, e2, ⟨_, N, fun i h1 h2 => ?_, (own_miss (by omega)).trans l⟩, own_ch_keep R K fun x hx => ninS (Ne.symm (e2 x hx)) (ninS ?_ nin0)⟩
    · obtain ⟨u, g3, g4⟩ := G i (by omega) h2
      exact ⟨u, (own_miss (by omega)).trans g3, g4⟩
    · obtain ⟨s, cx, Fx⟩ := own_ch_mem R x hx
      exact Fx.2.2.2.2.1
theorem own_next {b : Addr} {bs : Nat} {r : List (Addr × Nat)} {lo : Nat} {a : Addr} {sz : Nat} (C : own_Ch Z h q n0 t ts ta ((b, bs) :: r) lo a sz) (K : Keep h h' [a, q]) : own_Ch Z h' q n0 t ts ta r 0 b bs :=
  own_ch_keep C.2.2.2 K fun x hx => ninS (Ne.symm (C.2.1 x hx)) (ninS (by obtain ⟨s, cx, Fx⟩ := own_ch_mem C.2.2.2 x hx; exact Fx.2.2.2.2.1) nin0)
end Chain
theorem own_cnt_push (ta : Nat) : ∀ (r : List (Addr × Nat)) (lo sz : Nat), (r = [] → lo ≤ ta) → own_cnt (ta + 1) r lo sz = own_cnt ta r lo sz + 1
  | [], lo, sz, h => by show ta + 1 - lo = ta - lo + 1; have := h rfl; omega
  | (b, bs) :: r, lo, sz, h => by
    show (sz - 1 - lo) + own_cnt (ta + 1) r 0 bs = (sz - 1 - lo) + own_cnt ta r 0 bs + 1
    rw [own_cnt_push ta r 0 bs (fun _ => Nat.zero_le _)]; omega
theorem own_cnt_grow {Z : State} {h : Heap} {q : Addr} {n0 : Nat} {t : Addr} {ts : Nat} {b : Addr} {bs : Nat} : ∀ {r : List (Addr × Nat)} {lo : Nat} {a : Addr} {sz : Nat}, own_Ch Z h q n0 t ts (ts - 1) r lo a sz → own_cnt 1 (r ++ [(b, bs)]) lo sz = own_cnt (ts - 1) r lo sz + 1
  | [], lo, a, sz, C => by obtain ⟨_, e2, _⟩ := C; subst e2; rfl
  | (b', bs') :: r, lo, a, sz, C => by
    show (sz - 1 - lo) + own_cnt 1 (r ++ [(b, bs)]) 0 bs' = (sz - 1 - lo) + own_cnt (ts - 1) r 0 bs' + 1
    rw [own_cnt_grow C.2.2.2]; omega
theorem own_cnt_pop {Z : State} {h : Heap} {q : Addr} {n0 : Nat} {t : Addr} {ts ta : Nat} {r : List (Addr × Nat)} {lo : Nat} {a : Addr} {sz : Nat} (C : own_Ch Z h q n0 t ts ta r lo a sz) : own_cnt ta r (lo + 1) sz = own_cnt ta r lo sz - 1 := by
  cases r with
  | nil => show ta - (lo + 1) = ta - lo - 1; omega
  | cons x r => obtain ⟨b, bs⟩ := x; have := C.1; show (sz - 1 - (lo + 1)) + own_cnt ta r 0 bs = (sz - 1 - lo) + own_cnt ta r 0 bs - 1; omega
def own_Sh (r : List (Addr × Nat)) (lo ts ta k : Nat) : Prop := (r = [] → lo ≤ ta ∧ (lo = ta → ta = 0)) ∧ (r ≠ [] → 1 ≤ ta) ∧ ta ≤ ts - 1 ∧ ((ts = 2 ∧ ta ≤ k) ∨ (ts = 4 ∧ 1 + ta ≤ k) ∨ (ts = 8 ∧ 4 + ta ≤ k))
def own_QC (Z : State) (h : Heap) (q : Addr) (n0 k : Nat) (r : List (Addr × Nat)) (lo : Nat) (a : Addr) (sz : Nat) (t : Addr) (ts ta : Nat) : Prop :=
  Exa Z h q "com/example/fly_agaric/flyagaric/ChunkedQueue" ∧ Fld Z h q "com/example/fly_agaric/flyagaric/ChunkedQueue" "head" "[Ljava/lang/Object;" (.ref a) ∧ Fld Z h q "com/example/fly_agaric/flyagaric/ChunkedQueue" "headAt" "I" (.int (Nat.toInt32 lo)) ∧ Fld Z h q "com/example/fly_agaric/flyagaric/ChunkedQueue" "tail" "[Ljava/lang/Object;" (.ref t) ∧ Fld Z h q "com/example/fly_agaric/flyagaric/ChunkedQueue" "tailAt" "I" (.int (Nat.toInt32 ta)) ∧ own_Ch Z h q n0 t ts ta r lo a sz ∧ own_Sh r lo ts ta k ∧ own_cnt ta r lo sz ≤ k
def own_QI (Z : State) (h : Heap) (q : Addr) (n0 k n : Nat) : Prop := ∃ (r : List (Addr × Nat)) (lo : Nat) (a : Addr) (sz : Nat) (t : Addr) (ts ta : Nat), own_QC Z h q n0 k r lo a sz t ts ta ∧ n = own_cnt ta r lo sz
theorem own_inj {a b : Nat} (ha : a < 2 ^ 31) (hb : b < 2 ^ 31) : Nat.toInt32 a = Nat.toInt32 b ↔ a = b := by
  constructor
  · intro e
    have e1 := congrArg Int32.toInt e
    rw [len_toInt ha, len_toInt hb] at e1
    omega
  · rintro rfl; rfl
theorem own_tn {k : Nat} (h : k < 2 ^ 31) : (Nat.toInt32 k).toNatClampNeg = k := by
  simp only [Int32.toNatClampNeg, len_toInt h]; rfl
theorem own_s1 {k : Nat} (h : k + 1 < 2 ^ 31) : Nat.toInt32 k + (1 : Int32) = Nat.toInt32 (k + 1) := by
  apply Int32.toInt_inj.mp
  have q := c_iadd (Nat.toInt32 k) (1 : Int32)
  have r := rng32 (Nat.toInt32 k + (1 : Int32))
  rw [len_toInt (by omega), show (1 : Int32).toInt = 1 from rfl] at q
  rw [len_toInt h]
  omega
theorem own_m1 {k : Nat} (h1 : 1 ≤ k) (h : k < 2 ^ 31) : Nat.toInt32 k - (1 : Int32) = Nat.toInt32 (k - 1) := by
  apply Int32.toInt_inj.mp
  have q := c_isub (Nat.toInt32 k) (1 : Int32)
  have r := rng32 (Nat.toInt32 k - (1 : Int32))
  rw [len_toInt h, show (1 : Int32).toInt = 1 from rfl] at q
  rw [len_toInt (by omega)]
  omega
theorem own_nn {k : Nat} (h : k < 2 ^ 31) : ¬ Nat.toInt32 k < (0 : Int32) := by
  rw [Int32.lt_iff_toInt_lt, len_toInt h, show (0 : Int32).toInt = 0 from rfl]; omega
theorem own_bnd {Z : State} {h : Heap} {q : Addr} {n0 k : Nat} {r : List (Addr × Nat)} {lo : Nat} {a : Addr} {sz : Nat} {t : Addr} {ts ta : Nat} (C : own_QC Z h q n0 k r lo a sz t ts ta) : lo ≤ 8 ∧ ta ≤ 8 ∧ sz ≤ 8 ∧ ts ≤ 8 ∧ 2 ≤ ts ∧ 2 ≤ sz := by
  obtain ⟨-, -, -, -, -, C, S, -⟩ := C
  obtain ⟨c, F⟩ := own_ch_head C
  obtain ⟨-, ct, Ft⟩ := own_ch_tail C
  have h1 := F.2.2.2.2.2.2
  have h2 := Ft.2.2.2.2.2.2
  have h3 := S.2.2.1
  refine ⟨?_, by omega, h1.2, h2.2, h2.1, h1.1⟩
  cases r with
  | nil => have := (S.1 rfl).1; omega
  | cons x r => have := C.1; omega
theorem own_empty {Z : State} {h : Heap} {q : Addr} {n0 k : Nat} {r : List (Addr × Nat)} {lo : Nat} {a : Addr} {sz : Nat} {t : Addr} {ts ta : Nat} (C : own_QC Z h q n0 k r lo a sz t ts ta) : own_cnt ta r lo sz = 0 ↔ (a = t ∧ lo = ta) := by
  obtain ⟨-, -, -, -, -, C, S, -⟩ := C
  cases r with
  | nil =>
    obtain ⟨e1, e2, -⟩ := C
    have := (S.1 rfl).1
    show ta - lo = 0 ↔ _
    constructor
    · intro e; exact ⟨e1, by omega⟩
    · intro e; omega
  | cons x r =>
    obtain ⟨b, bs⟩ := x
    have hne := own_ch_ne C
    have := C.1
    show (sz - 1 - lo) + own_cnt ta r 0 bs = 0 ↔ _
    constructor
    · intro e; omega
    · intro e; exact absurd e.1 hne
theorem own_isEv {Z : State} {h : Heap} {q : Addr} {n0 k : Nat} {r : List (Addr × Nat)} {lo : Nat} {a : Addr} {sz : Nat} {t : Addr} {ts ta : Nat} (C : own_QC Z h q n0 k r lo a sz t ts ta) : (if a = t then (if Nat.toInt32 lo = Nat.toInt32 ta then (1 : Int32) else 0) else 0) = if own_cnt ta r lo sz = 0 then 1 else 0 := by
  have hb := own_bnd C
  have he := own_empty C
  have hi := own_inj (a := lo) (b := ta) (by omega) (by omega)
  simp only [he, hi]
  by_cases e1 : a = t <;> by_cases e2 : lo = ta <;> simp [e1, e2]
theorem own_more {Z : State} {h : Heap} {q : Addr} {n0 k : Nat} {r : List (Addr × Nat)} {lo : Nat} {a : Addr} {sz : Nat} {t : Addr} {ts ta : Nat} (Q : own_QC Z h q n0 k r lo a sz t ts ta) : own_QC Z h q n0 (k + 1) r lo a sz t ts ta := by
  obtain ⟨h1, h2, h3, h4, h5, h6, ⟨s1, s2, s3, s4⟩, h8⟩ := Q
  exact ⟨h1, h2, h3, h4, h5, h6, ⟨s1, s2, s3, by omega⟩, by omega⟩
theorem own_moreI {Z : State} {h : Heap} {q : Addr} {n0 k n : Nat} (Q : own_QI Z h q n0 k n) : own_QI Z h q n0 (k + 1) n := by
  obtain ⟨r, lo, a, sz, t, ts, ta, Q, e⟩ := Q
  exact ⟨r, lo, a, sz, t, ts, ta, own_more Q, e⟩
theorem di_0 : decode prog_9_method_1_code 0 = .ok (.aload_n 0, 1) := by decide +kernel
theorem di_1 : decode prog_9_method_1_code 1 = .ok (.invokespecial 1, 3) := by decide +kernel
theorem di_4 : decode prog_9_method_1_code 4 = .ok (.aload_n 0, 1) := by decide +kernel
theorem di_5 : decode prog_9_method_1_code 5 = .ok (.iconst 2, 1) := by decide +kernel
theorem di_6 : decode prog_9_method_1_code 6 = .ok (.anewarray 2, 3) := by decide +kernel
theorem di_9 : decode prog_9_method_1_code 9 = .ok (.putfield 9, 3) := by decide +kernel
theorem di_12 : decode prog_9_method_1_code 12 = .ok (.aload_n 0, 1) := by decide +kernel
theorem di_13 : decode prog_9_method_1_code 13 = .ok (.aload_n 0, 1) := by decide +kernel
theorem di_14 : decode prog_9_method_1_code 14 = .ok (.getfield 9, 3) := by decide +kernel
theorem di_17 : decode prog_9_method_1_code 17 = .ok (.putfield 13, 3) := by decide +kernel
theorem di_20 : decode prog_9_method_1_code 20 = .ok (.return_, 1) := by decide +kernel
theorem de_0 : decode prog_9_method_2_code 0 = .ok (.aload_n 0, 1) := by decide +kernel
theorem de_1 : decode prog_9_method_2_code 1 = .ok (.getfield 9, 3) := by decide +kernel
theorem de_4 : decode prog_9_method_2_code 4 = .ok (.aload_n 0, 1) := by decide +kernel
theorem de_5 : decode prog_9_method_2_code 5 = .ok (.getfield 13, 3) := by decide +kernel
theorem de_8 : decode prog_9_method_2_code 8 = .ok (.if_acmp .ne 18, 3) := by decide +kernel
theorem de_11 : decode prog_9_method_2_code 11 = .ok (.aload_n 0, 1) := by decide +kernel
theorem de_12 : decode prog_9_method_2_code 12 = .ok (.getfield 16, 3) := by decide +kernel
theorem de_15 : decode prog_9_method_2_code 15 = .ok (.aload_n 0, 1) := by decide +kernel
theorem de_16 : decode prog_9_method_2_code 16 = .ok (.getfield 20, 3) := by decide +kernel
theorem de_19 : decode prog_9_method_2_code 19 = .ok (.if_icmp .ne 7, 3) := by decide +kernel
theorem de_22 : decode prog_9_method_2_code 22 = .ok (.iconst 1, 1) := by decide +kernel
theorem de_23 : decode prog_9_method_2_code 23 = .ok (.goto 4, 3) := by decide +kernel
theorem de_26 : decode prog_9_method_2_code 26 = .ok (.iconst 0, 1) := by decide +kernel
theorem de_27 : decode prog_9_method_2_code 27 = .ok (.ireturn, 1) := by decide +kernel
theorem dk_0 : decode prog_9_method_4_code 0 = .ok (.aload_n 0, 1) := by decide +kernel
theorem dk_1 : decode prog_9_method_4_code 1 = .ok (.invokevirtual 29, 3) := by decide +kernel
theorem dk_4 : decode prog_9_method_4_code 4 = .ok (.ifCond .eq 7, 3) := by decide +kernel
theorem dk_7 : decode prog_9_method_4_code 7 = .ok (.aconst_null, 1) := by decide +kernel
theorem dk_8 : decode prog_9_method_4_code 8 = .ok (.goto 12, 3) := by decide +kernel
theorem dk_11 : decode prog_9_method_4_code 11 = .ok (.aload_n 0, 1) := by decide +kernel
theorem dk_12 : decode prog_9_method_4_code 12 = .ok (.getfield 9, 3) := by decide +kernel
theorem dk_15 : decode prog_9_method_4_code 15 = .ok (.aload_n 0, 1) := by decide +kernel
theorem dk_16 : decode prog_9_method_4_code 16 = .ok (.getfield 16, 3) := by decide +kernel
theorem dk_19 : decode prog_9_method_4_code 19 = .ok (.aaload, 1) := by decide +kernel
theorem dk_20 : decode prog_9_method_4_code 20 = .ok (.areturn, 1) := by decide +kernel
theorem dp_0 : decode prog_9_method_6_code 0 = .ok (.aload_n 0, 1) := by decide +kernel
theorem dp_1 : decode prog_9_method_6_code 1 = .ok (.invokevirtual 33, 3) := by decide +kernel
theorem dp_4 : decode prog_9_method_6_code 4 = .ok (.astore_n 1, 1) := by decide +kernel
theorem dp_5 : decode prog_9_method_6_code 5 = .ok (.aload_n 1, 1) := by decide +kernel
theorem dp_6 : decode prog_9_method_6_code 6 = .ok (.ifnonnull 5, 3) := by decide +kernel
theorem dp_9 : decode prog_9_method_6_code 9 = .ok (.aconst_null, 1) := by decide +kernel
theorem dp_10 : decode prog_9_method_6_code 10 = .ok (.areturn, 1) := by decide +kernel
theorem dp_11 : decode prog_9_method_6_code 11 = .ok (.aload_n 0, 1) := by decide +kernel
theorem dp_12 : decode prog_9_method_6_code 12 = .ok (.getfield 9, 3) := by decide +kernel
theorem dp_15 : decode prog_9_method_6_code 15 = .ok (.aload_n 0, 1) := by decide +kernel
theorem dp_16 : decode prog_9_method_6_code 16 = .ok (.dup, 1) := by decide +kernel
theorem dp_17 : decode prog_9_method_6_code 17 = .ok (.getfield 16, 3) := by decide +kernel
theorem dp_20 : decode prog_9_method_6_code 20 = .ok (.dup_x1, 1) := by decide +kernel
theorem dp_21 : decode prog_9_method_6_code 21 = .ok (.iconst 1, 1) := by decide +kernel
theorem dp_22 : decode prog_9_method_6_code 22 = .ok (.iadd, 1) := by decide +kernel
theorem dp_23 : decode prog_9_method_6_code 23 = .ok (.putfield 16, 3) := by decide +kernel
theorem dp_26 : decode prog_9_method_6_code 26 = .ok (.aconst_null, 1) := by decide +kernel
theorem dp_27 : decode prog_9_method_6_code 27 = .ok (.aastore, 1) := by decide +kernel
theorem dp_28 : decode prog_9_method_6_code 28 = .ok (.aload_n 0, 1) := by decide +kernel
theorem dp_29 : decode prog_9_method_6_code 29 = .ok (.invokevirtual 29, 3) := by decide +kernel
theorem dp_32 : decode prog_9_method_6_code 32 = .ok (.ifCond .eq 16, 3) := by decide +kernel
theorem dp_35 : decode prog_9_method_6_code 35 = .ok (.aload_n 0, 1) := by decide +kernel
theorem dp_36 : decode prog_9_method_6_code 36 = .ok (.iconst 0, 1) := by decide +kernel
theorem dp_37 : decode prog_9_method_6_code 37 = .ok (.putfield 16, 3) := by decide +kernel
theorem dp_40 : decode prog_9_method_6_code 40 = .ok (.aload_n 0, 1) := by decide +kernel
theorem dp_41 : decode prog_9_method_6_code 41 = .ok (.iconst 0, 1) := by decide +kernel
theorem dp_42 : decode prog_9_method_6_code 42 = .ok (.putfield 20, 3) := by decide +kernel
theorem dp_45 : decode prog_9_method_6_code 45 = .ok (.goto 38, 3) := by decide +kernel
theorem dp_48 : decode prog_9_method_6_code 48 = .ok (.aload_n 0, 1) := by decide +kernel
theorem dp_49 : decode prog_9_method_6_code 49 = .ok (.getfield 16, 3) := by decide +kernel
theorem dp_52 : decode prog_9_method_6_code 52 = .ok (.aload_n 0, 1) := by decide +kernel
theorem dp_53 : decode prog_9_method_6_code 53 = .ok (.getfield 9, 3) := by decide +kernel
theorem dp_56 : decode prog_9_method_6_code 56 = .ok (.arraylength, 1) := by decide +kernel
theorem dp_57 : decode prog_9_method_6_code 57 = .ok (.iconst 1, 1) := by decide +kernel
theorem dp_58 : decode prog_9_method_6_code 58 = .ok (.isub, 1) := by decide +kernel
theorem dp_59 : decode prog_9_method_6_code 59 = .ok (.if_icmp .ne 24, 3) := by decide +kernel
theorem dp_62 : decode prog_9_method_6_code 62 = .ok (.aload_n 0, 1) := by decide +kernel
theorem dp_63 : decode prog_9_method_6_code 63 = .ok (.aload_n 0, 1) := by decide +kernel
theorem dp_64 : decode prog_9_method_6_code 64 = .ok (.getfield 9, 3) := by decide +kernel
theorem dp_67 : decode prog_9_method_6_code 67 = .ok (.aload_n 0, 1) := by decide +kernel
theorem dp_68 : decode prog_9_method_6_code 68 = .ok (.getfield 16, 3) := by decide +kernel
theorem dp_71 : decode prog_9_method_6_code 71 = .ok (.aaload, 1) := by decide +kernel
theorem dp_72 : decode prog_9_method_6_code 72 = .ok (.checkcast 37, 3) := by decide +kernel
theorem dp_75 : decode prog_9_method_6_code 75 = .ok (.putfield 9, 3) := by decide +kernel
theorem dp_78 : decode prog_9_method_6_code 78 = .ok (.aload_n 0, 1) := by decide +kernel
theorem dp_79 : decode prog_9_method_6_code 79 = .ok (.iconst 0, 1) := by decide +kernel
theorem dp_80 : decode prog_9_method_6_code 80 = .ok (.putfield 16, 3) := by decide +kernel
theorem dp_83 : decode prog_9_method_6_code 83 = .ok (.aload_n 1, 1) := by decide +kernel
theorem dp_84 : decode prog_9_method_6_code 84 = .ok (.areturn, 1) := by decide +kernel
theorem da_0 : decode prog_9_method_3_code 0 = .ok (.aload_n 0, 1) := by decide +kernel
theorem da_1 : decode prog_9_method_3_code 1 = .ok (.getfield 13, 3) := by decide +kernel
theorem da_4 : decode prog_9_method_3_code 4 = .ok (.arraylength, 1) := by decide +kernel
theorem da_5 : decode prog_9_method_3_code 5 = .ok (.iconst 1, 1) := by decide +kernel
theorem da_6 : decode prog_9_method_3_code 6 = .ok (.isub, 1) := by decide +kernel
theorem da_7 : decode prog_9_method_3_code 7 = .ok (.istore_n 2, 1) := by decide +kernel
theorem da_8 : decode prog_9_method_3_code 8 = .ok (.aload_n 0, 1) := by decide +kernel
theorem da_9 : decode prog_9_method_3_code 9 = .ok (.getfield 20, 3) := by decide +kernel
theorem da_12 : decode prog_9_method_3_code 12 = .ok (.iload_n 2, 1) := by decide +kernel
theorem da_13 : decode prog_9_method_3_code 13 = .ok (.if_icmp .ne 37, 3) := by decide +kernel
theorem da_16 : decode prog_9_method_3_code 16 = .ok (.iconst 2, 1) := by decide +kernel
theorem da_17 : decode prog_9_method_3_code 17 = .ok (.aload_n 0, 1) := by decide +kernel
theorem da_18 : decode prog_9_method_3_code 18 = .ok (.getfield 13, 3) := by decide +kernel
theorem da_21 : decode prog_9_method_3_code 21 = .ok (.arraylength, 1) := by decide +kernel
theorem da_22 : decode prog_9_method_3_code 22 = .ok (.imul, 1) := by decide +kernel
theorem da_23 : decode prog_9_method_3_code 23 = .ok (.sipush 1024, 3) := by decide +kernel
theorem da_26 : decode prog_9_method_3_code 26 = .ok (.invokestatic 23, 3) := by decide +kernel
theorem da_29 : decode prog_9_method_3_code 29 = .ok (.anewarray 2, 3) := by decide +kernel
theorem da_32 : decode prog_9_method_3_code 32 = .ok (.astore_n 3, 1) := by decide +kernel
theorem da_33 : decode prog_9_method_3_code 33 = .ok (.aload_n 0, 1) := by decide +kernel
theorem da_34 : decode prog_9_method_3_code 34 = .ok (.getfield 13, 3) := by decide +kernel
theorem da_37 : decode prog_9_method_3_code 37 = .ok (.iload_n 2, 1) := by decide +kernel
theorem da_38 : decode prog_9_method_3_code 38 = .ok (.aload_n 3, 1) := by decide +kernel
theorem da_39 : decode prog_9_method_3_code 39 = .ok (.aastore, 1) := by decide +kernel
theorem da_40 : decode prog_9_method_3_code 40 = .ok (.aload_n 0, 1) := by decide +kernel
theorem da_41 : decode prog_9_method_3_code 41 = .ok (.aload_n 3, 1) := by decide +kernel
theorem da_42 : decode prog_9_method_3_code 42 = .ok (.putfield 13, 3) := by decide +kernel
theorem da_45 : decode prog_9_method_3_code 45 = .ok (.aload_n 0, 1) := by decide +kernel
theorem da_46 : decode prog_9_method_3_code 46 = .ok (.iconst 0, 1) := by decide +kernel
theorem da_47 : decode prog_9_method_3_code 47 = .ok (.putfield 20, 3) := by decide +kernel
theorem da_50 : decode prog_9_method_3_code 50 = .ok (.aload_n 0, 1) := by decide +kernel
theorem da_51 : decode prog_9_method_3_code 51 = .ok (.getfield 13, 3) := by decide +kernel
theorem da_54 : decode prog_9_method_3_code 54 = .ok (.aload_n 0, 1) := by decide +kernel
theorem da_55 : decode prog_9_method_3_code 55 = .ok (.dup, 1) := by decide +kernel
theorem da_56 : decode prog_9_method_3_code 56 = .ok (.getfield 20, 3) := by decide +kernel
theorem da_59 : decode prog_9_method_3_code 59 = .ok (.dup_x1, 1) := by decide +kernel
theorem da_60 : decode prog_9_method_3_code 60 = .ok (.iconst 1, 1) := by decide +kernel
theorem da_61 : decode prog_9_method_3_code 61 = .ok (.iadd, 1) := by decide +kernel
theorem da_62 : decode prog_9_method_3_code 62 = .ok (.putfield 20, 3) := by decide +kernel
theorem da_65 : decode prog_9_method_3_code 65 = .ok (.aload_n 1, 1) := by decide +kernel
theorem da_66 : decode prog_9_method_3_code 66 = .ok (.aastore, 1) := by decide +kernel
theorem da_67 : decode prog_9_method_3_code 67 = .ok (.return_, 1) := by decide +kernel
theorem ds_0 : decode method_2_code 0 = .ok (.iload_n 3, 1) := by decide +kernel
theorem ds_1 : decode method_2_code 1 = .ok (.ifCond .ge 5, 3) := by decide +kernel
theorem ds_4 : decode method_2_code 4 = .ok (.iconst (-1), 1) := by decide +kernel
theorem ds_5 : decode method_2_code 5 = .ok (.ireturn, 1) := by decide +kernel
theorem ds_6 : decode method_2_code 6 = .ok (.iload_n 1, 1) := by decide +kernel
theorem ds_7 : decode method_2_code 7 = .ok (.iload_n 2, 1) := by decide +kernel
theorem ds_8 : decode method_2_code 8 = .ok (.iushr, 1) := by decide +kernel
theorem ds_9 : decode method_2_code 9 = .ok (.iconst 1, 1) := by decide +kernel
theorem ds_10 : decode method_2_code 10 = .ok (.iand, 1) := by decide +kernel
theorem ds_11 : decode method_2_code 11 = .ok (.ifCond .eq 19, 3) := by decide +kernel
theorem ds_14 : decode method_2_code 14 = .ok (.aload_n 0, 1) := by decide +kernel
theorem ds_15 : decode method_2_code 15 = .ok (.iload_n 2, 1) := by decide +kernel
theorem ds_16 : decode method_2_code 16 = .ok (.invokestatic 7, 3) := by decide +kernel
theorem ds_19 : decode method_2_code 19 = .ok (.invokevirtual 13, 3) := by decide +kernel
theorem ds_22 : decode method_2_code 22 = .ok (.iload_n 3, 1) := by decide +kernel
theorem ds_23 : decode method_2_code 23 = .ok (.iconst 1, 1) := by decide +kernel
theorem ds_24 : decode method_2_code 24 = .ok (.iadd, 1) := by decide +kernel
theorem ds_25 : decode method_2_code 25 = .ok (.istore 4, 2) := by decide +kernel
theorem ds_27 : decode method_2_code 27 = .ok (.goto 49, 3) := by decide +kernel
theorem ds_30 : decode method_2_code 30 = .ok (.aload_n 0, 1) := by decide +kernel
theorem ds_31 : decode method_2_code 31 = .ok (.invokevirtual 19, 3) := by decide +kernel
theorem ds_34 : decode method_2_code 34 = .ok (.checkcast 8, 3) := by decide +kernel
theorem ds_37 : decode method_2_code 37 = .ok (.astore 5, 2) := by decide +kernel
theorem ds_39 : decode method_2_code 39 = .ok (.aload 5, 2) := by decide +kernel
theorem ds_41 : decode method_2_code 41 = .ok (.ifnonnull 7, 3) := by decide +kernel
theorem ds_44 : decode method_2_code 44 = .ok (.iconst 1, 1) := by decide +kernel
theorem ds_45 : decode method_2_code 45 = .ok (.goto 4, 3) := by decide +kernel
theorem ds_48 : decode method_2_code 48 = .ok (.iconst 0, 1) := by decide +kernel
theorem ds_49 : decode method_2_code 49 = .ok (.iload_n 3, 1) := by decide +kernel
theorem ds_50 : decode method_2_code 50 = .ok (.ifCond .ne 7, 3) := by decide +kernel
theorem ds_53 : decode method_2_code 53 = .ok (.iconst 1, 1) := by decide +kernel
theorem ds_54 : decode method_2_code 54 = .ok (.goto 4, 3) := by decide +kernel
theorem ds_57 : decode method_2_code 57 = .ok (.iconst 0, 1) := by decide +kernel
theorem ds_58 : decode method_2_code 58 = .ok (.if_icmp .eq 5, 3) := by decide +kernel
theorem ds_61 : decode method_2_code 61 = .ok (.iconst (-1), 1) := by decide +kernel
theorem ds_62 : decode method_2_code 62 = .ok (.ireturn, 1) := by decide +kernel
theorem ds_63 : decode method_2_code 63 = .ok (.iload_n 3, 1) := by decide +kernel
theorem ds_64 : decode method_2_code 64 = .ok (.ifCond .ne 7, 3) := by decide +kernel
theorem ds_67 : decode method_2_code 67 = .ok (.iconst 0, 1) := by decide +kernel
theorem ds_68 : decode method_2_code 68 = .ok (.goto 6, 3) := by decide +kernel
theorem ds_71 : decode method_2_code 71 = .ok (.iload_n 3, 1) := by decide +kernel
theorem ds_72 : decode method_2_code 72 = .ok (.iconst 1, 1) := by decide +kernel
theorem ds_73 : decode method_2_code 73 = .ok (.isub, 1) := by decide +kernel
theorem ds_74 : decode method_2_code 74 = .ok (.istore 4, 2) := by decide +kernel
theorem ds_76 : decode method_2_code 76 = .ok (.aload_n 0, 1) := by decide +kernel
theorem ds_77 : decode method_2_code 77 = .ok (.invokevirtual 23, 3) := by decide +kernel
theorem ds_80 : decode method_2_code 80 = .ok (.iload 4, 2) := by decide +kernel
theorem ds_82 : decode method_2_code 82 = .ok (.ifCond .ne 7, 3) := by decide +kernel
theorem ds_85 : decode method_2_code 85 = .ok (.iconst 1, 1) := by decide +kernel
theorem ds_86 : decode method_2_code 86 = .ok (.goto 4, 3) := by decide +kernel
theorem ds_89 : decode method_2_code 89 = .ok (.iconst 0, 1) := by decide +kernel
theorem ds_90 : decode method_2_code 90 = .ok (.if_icmp .eq 5, 3) := by decide +kernel
theorem ds_93 : decode method_2_code 93 = .ok (.iconst (-1), 1) := by decide +kernel
theorem ds_94 : decode method_2_code 94 = .ok (.ireturn, 1) := by decide +kernel
theorem ds_95 : decode method_2_code 95 = .ok (.iload 4, 2) := by decide +kernel
theorem ds_97 : decode method_2_code 97 = .ok (.ireturn, 1) := by decide +kernel
theorem dv_0 : decode jdk_33_method_22_code 0 = .ok (.iload_n 0, 1) := by decide +kernel
theorem dv_1 : decode jdk_33_method_22_code 1 = .ok (.bipush (-128), 2) := by decide +kernel
theorem dv_3 : decode jdk_33_method_22_code 3 = .ok (.if_icmp .lt 20, 3) := by decide +kernel
theorem dv_6 : decode jdk_33_method_22_code 6 = .ok (.iload_n 0, 1) := by decide +kernel
theorem dv_7 : decode jdk_33_method_22_code 7 = .ok (.getstatic 191, 3) := by decide +kernel
theorem dv_10 : decode jdk_33_method_22_code 10 = .ok (.if_icmp .gt 13, 3) := by decide +kernel
theorem dv_13 : decode jdk_33_method_22_code 13 = .ok (.getstatic 195, 3) := by decide +kernel
theorem dv_16 : decode jdk_33_method_22_code 16 = .ok (.iload_n 0, 1) := by decide +kernel
theorem dv_17 : decode jdk_33_method_22_code 17 = .ok (.sipush 128, 3) := by decide +kernel
theorem dv_20 : decode jdk_33_method_22_code 20 = .ok (.iadd, 1) := by decide +kernel
theorem dv_21 : decode jdk_33_method_22_code 21 = .ok (.aaload, 1) := by decide +kernel
theorem dv_22 : decode jdk_33_method_22_code 22 = .ok (.areturn, 1) := by decide +kernel
theorem dv_23 : decode jdk_33_method_22_code 23 = .ok (.new 1, 3) := by decide +kernel
theorem dv_26 : decode jdk_33_method_22_code 26 = .ok (.dup, 1) := by decide +kernel
theorem dv_27 : decode jdk_33_method_22_code 27 = .ok (.iload_n 0, 1) := by decide +kernel
theorem dv_28 : decode jdk_33_method_22_code 28 = .ok (.invokespecial 199, 3) := by decide +kernel
theorem dv_31 : decode jdk_33_method_22_code 31 = .ok (.areturn, 1) := by decide +kernel
theorem dm_0 : decode jdk_29_method_69_code 0 = .ok (.iload_n 0, 1) := by decide +kernel
theorem dm_1 : decode jdk_29_method_69_code 1 = .ok (.iload_n 1, 1) := by decide +kernel
theorem dm_2 : decode jdk_29_method_69_code 2 = .ok (.if_icmp .gt 7, 3) := by decide +kernel
theorem dm_5 : decode jdk_29_method_69_code 5 = .ok (.iload_n 0, 1) := by decide +kernel
theorem dm_6 : decode jdk_29_method_69_code 6 = .ok (.goto 4, 3) := by decide +kernel
theorem dm_9 : decode jdk_29_method_69_code 9 = .ok (.iload_n 1, 1) := by decide +kernel
theorem dm_10 : decode jdk_29_method_69_code 10 = .ok (.ireturn, 1) := by decide +kernel
theorem own_pn0 : plainName "java/lang/Integer" = true := by first | (simp [plainName, overriddenIn]; done) | decide +kernel
theorem own_pn1 : plainName "com/example/fly_agaric/flyagaric/ChunkedQueue" = true := by first | (simp [plainName, overriddenIn]; done) | decide +kernel
theorem own_pn2 : plainName "com/example/fly_agaric/flyagaric/ChunkedQueueIsEmptyPinLaw" = true := by first | (simp [plainName, overriddenIn]; done) | decide +kernel
theorem own_pd0 : parseMethodDescriptor "()Z" = some ⟨[], some .boolean⟩ := by decide +kernel
theorem own_pd1 : parseMethodDescriptor "()Ljava/lang/Object;" = some ⟨[], some (.object "java/lang/Object")⟩ := by decide +kernel
theorem own_pd2 : parseMethodDescriptor "(II)I" = some ⟨[.int, .int], some .int⟩ := by decide +kernel
theorem own_pd3 : parseMethodDescriptor "(I)Ljava/lang/Integer;" = some ⟨[.int], some (.object "java/lang/Integer")⟩ := by decide +kernel
theorem own_pd4 : parseMethodDescriptor "(Ljava/lang/Object;)V" = some ⟨[(.object "java/lang/Object")], none⟩ := by decide +kernel
theorem own_pd5 : parseMethodDescriptor "()V" = some ⟨[], none⟩ := by decide +kernel
theorem own_pd6 : parseMethodDescriptor "(Lcom/example/fly_agaric/flyagaric/ChunkedQueue;III)I" = some ⟨[(.object "com/example/fly_agaric/flyagaric/ChunkedQueue"), .int, .int, .int], some .int⟩ := by decide +kernel
def own_vo_Q (Z : State) (xi : Int32) (h0 : Heap) (n0 : Nat) (v : Option Value) (h : Heap) (L : List Loc) : Prop := ∃ r : Addr, v = some (.ref r) ∧ Fr n0 L ∧ h = h0 ∧ Exa Z Z.heap r "java/lang/Integer"
theorem own_vo_ef (m : MethodId) (x0 : Int32) : entryFrame m #[(.int x0)] 1 = mkF m 0 #[.val (.int x0)] [] := by first | (simp [entryFrame, mkF, argsToLocals, Value.category]; done) | rfl
set_option maxRecDepth 65536 in
set_option maxHeartbeats 40000000 in
theorem own_vo (l : Launch) (Z : State) (a0 : Array Value) (hw : ∀ d ∈ tables_1, d.before a0 Z = true) (ws : List Jvm.Cond) (xi : Int32) (vc : Addr) (cc : Cell) (h0 : Heap) (n0 : Nat) (Z0 : n0 ≤ h0.size) (SH : Sta Z Z.heap "java/lang/Integer$IntegerCache" "high" "I" (.int (127 : Int32))) (SC : Sta Z Z.heap "java/lang/Integer$IntegerCache" "cache" "[Ljava/lang/Integer;" (.ref vc)) (AC : Arr Z Z.heap vc cc (.object "java/lang/Integer")) (sz : cc.slots.size = 256) (hel : ∀ j : Int32, ¬ (j < 0 ∨ cc.slots.size ≤ j.toNatClampNeg) → ∃ r : Addr, cc.slots[j.toNatClampNeg]? = some (.ref r) ∧ Exa Z Z.heap r "java/lang/Integer") (O0 : Old Z n0 h0) (hlo : ¬ xi < (-128 : Int32)) (hhi : ¬ (127 : Int32) < xi) :
    MetFree l (⟨"java/lang/Integer", "valueOf", "(I)Ljava/lang/Integer;"⟩ : MethodName) (head1 (Jvm.Cond.code (⟨"java/lang/Integer", "valueOf", "(I)Ljava/lang/Integer;"⟩ : MethodName) jdk_33_method_22_code 1 (some (.object "java/lang/Integer")) :: ws) ({ frames := 0, cells := 0, slots := 0, locals := 0 } : Room)) (fun a U => a = #[(.int xi)] ∧ Z.Warmed39 U.vm ∧ U.heap = h0) (fun _ _ _ _ _ => True) (fun _ U o U' => ∃ v L, o = .returned v ∧ own_vo_Q Z xi h0 n0 v U'.heap L ∧ FrameEnd U o U' L ({ frames := 0, cells := 0, slots := 0, locals := 0 } : Room).cells ({ frames := 0, cells := 0, slots := 0, locals := 0 } : Room).slots) := by
  refine MetFree.of_bodySF (plainFor_of_name own_pn0) hisR ?_
  intro p e s m args below meth c s₁ Bd hml0 hP hK
  obtain ⟨rfl, hZ, hh⟩ := hP
  have hx := Bd.exec
  have hby := Bd.bytes
  have hml : c.maxLocals = 1 := hml0
  have hown : s.vm.findClass "java/lang/Integer" = some m.cls := findClass_of_methodNamed Bd.named
  have hnm := (name_of_methodNamed Bd.named Bd.method).1
  have X0 : Stand p l e ({ frames := 0, cells := 0, slots := 0, locals := 0 } : Room) s m #[(.int xi)] below meth c s₁ [] 0 0 := Stand.of_body Bd
  have e0 : s₁.heap = h0 := by rw [← hh, Bd.state]; rfl
  have N0 := Fr.nil n0
  have A0 : ∀ t, Steps p.tables e below (s₁.setTop (mkF m 0 #[.val (.int xi)] [])) t → Steps p.tables e below (s₁.setTop (entryFrame m #[(.int xi)] 1)) t := fun t k => castTop (own_vo_ef m xi) k
  have A1 : ∀ t, Steps p.tables e below (s₁.setTop (mkF m 7 #[.val (.int xi)] [(.int xi)])) t → Steps p.tables e below (s₁.setTop (entryFrame m #[(.int xi)] 1)) t := by
    intro t k
    refine A0 _ ?_
    refine XS.iloadN X0.here hx rfl (hb hby dv_0) rfl ?_
    show Steps p.tables e below (s₁.setTop (mkF m 1 #[.val (.int xi)] [(.int xi)])) _
    refine XS.bipush X0.here hx rfl (hb hby dv_1) ?_
    show Steps p.tables e below (s₁.setTop (mkF m 3 #[.val (.int xi)] [(.int (-128 : Int32)), (.int xi)])) _
    refine XS.icmpNo X0.here hx rfl (hb hby dv_3) rfl (flt hlo).1 ?_
    show Steps p.tables e below (s₁.setTop (mkF m 6 #[.val (.int xi)] [])) _
    refine XS.iloadN X0.here hx rfl (hb hby dv_6) rfl ?_
    show Steps p.tables e below (s₁.setTop (mkF m 7 #[.val (.int xi)] [(.int xi)])) _
    exact k
  obtain ⟨T2, X2, e2, st2⟩ := getS2 X0 hx hZ hown (host := "") (Or.inl (hw _ (List.mem_of_getElem? (i := 43) rfl))) Via.refl e0 (SH.ext O0.2) (g := (mkF m 7 #[.val (.int xi)] [(.int xi)])) rfl (hb hby dv_7)
  have A3 : ∀ t, Steps p.tables e below (T2.setTop (mkF m 13 #[.val (.int xi)] [])) t → Steps p.tables e below (s₁.setTop (entryFrame m #[(.int xi)] 1)) t := by
    intro t k
    refine A1 _ ?_
    refine st2 _ ?_
    show Steps p.tables e below (T2.setTop (mkF m 10 #[.val (.int xi)] [(.int (127 : Int32)), (.int xi)])) _
    refine XS.icmpNo X2.here hx rfl (hb hby dv_10) rfl (flt hhi).2.2.1 ?_
    show Steps p.tables e below (T2.setTop (mkF m 13 #[.val (.int xi)] [])) _
    exact k
  obtain ⟨T4, X4, e4, st4⟩ := getS2 X2 hx hZ hown (host := "") (Or.inl (hw _ (List.mem_of_getElem? (i := 45) rfl))) Via.refl e2 (SC.ext O0.2) (g := (mkF m 13 #[.val (.int xi)] [])) rfl (hb hby dv_13)
  have A5 : ∀ t, Steps p.tables e below (T4.setTop (mkF m 21 #[.val (.int xi)] [(.int (xi + (128 : Int32))), (.ref vc)])) t → Steps p.tables e below (s₁.setTop (entryFrame m #[(.int xi)] 1)) t := by
    intro t k
    refine A3 _ ?_
    refine st4 _ ?_
    show Steps p.tables e below (T4.setTop (mkF m 16 #[.val (.int xi)] [(.ref vc)])) _
    refine XS.iloadN X4.here hx rfl (hb hby dv_16) rfl ?_
    show Steps p.tables e below (T4.setTop (mkF m 17 #[.val (.int xi)] [(.int xi), (.ref vc)])) _
    refine XS.sipush X4.here hx rfl (hb hby dv_17) ?_
    show Steps p.tables e below (T4.setTop (mkF m 20 #[.val (.int xi)] [(.int (128 : Int32)), (.int xi), (.ref vc)])) _
    refine XS.iadd X4.here hx rfl (hb hby dv_20) rfl ?_
    show Steps p.tables e below (T4.setTop (mkF m 21 #[.val (.int xi)] [(.int (xi + (128 : Int32))), (.ref vc)])) _
    exact k
  have hj : ¬ ((xi + (128 : Int32)) < 0 ∨ cc.slots.size ≤ ((xi + (128 : Int32))).toNatClampNeg) := by
    have q1 := c_iadd xi (128 : Int32)
    have q2 := rng32 (xi + (128 : Int32))
    have hlo' := hlo
    have hhi' := hhi
    rw [Int32.lt_iff_toInt_lt] at hlo' hhi'
    rw [show (128 : Int32).toInt = 128 from rfl] at q1
    rw [show (-128 : Int32).toInt = -128 from rfl] at hlo'
    rw [show (127 : Int32).toInt = 127 from rfl] at hhi'
    rw [sz, Int32.lt_iff_toInt_lt, show (0 : Int32).toInt = 0 from rfl]
    simp only [Int32.toNatClampNeg]
    omega
  obtain ⟨r, hat, ER⟩ := hel _ hj
  have A6 : ∀ t, Steps p.tables e below (T4.setTop (mkF m 22 #[.val (.int xi)] [(.ref r)])) t → Steps p.tables e below (s₁.setTop (entryFrame m #[(.int xi)] 1)) t := by
    intro t k
    refine A5 _ ?_
    refine X4.aaload hx (j := (xi + (128 : Int32))) (v := (.ref r)) (by rw [e4]; exact O0.2.2 _ _ AC.1) (State.isArrayOf_alike hZ.alike AC.2.1) rfl AC.2.2 hj hat (g := (mkF m 21 #[.val (.int xi)] [(.int (xi + (128 : Int32))), (.ref vc)])) rfl rfl (hb hby dv_21) _ ?_
    show Steps p.tables e below (T4.setTop (mkF m 22 #[.val (.int xi)] [(.ref r)])) _
    exact k
  obtain ⟨fs, hr, hrun, hended, hW, hsame⟩ := X4.leave (v := some (.ref r)) (fun h => by rw [Bd.returns] at h; cases h)
  refine ⟨_, _, A6 _ ?_, hrun, hended, _, _, rfl, ?_, ⟨_, rfl⟩, hW, hsame.mono (by decide) (by decide)⟩
  · exact retOut X4 hx Bd.returns rfl (Or.inr (Or.inr (Or.inr (Or.inr ⟨rfl, rfl, rfl⟩)))) (hb hby dv_22) hr
  · show own_vo_Q Z xi h0 n0 _ T4.heap _
    rw [e4]
    exact ⟨_, rfl, N0, rfl, ER⟩
def own_min_Q (Z : State) (y1 y2 : Int32) (h0 : Heap) (n0 : Nat) (v : Option Value) (h : Heap) (L : List Loc) : Prop := v = some (.int (if y2 < y1 then y2 else y1)) ∧ Fr n0 L ∧ h = h0
theorem own_min_ef (m : MethodId) (x0 : Int32) (x1 : Int32) : entryFrame m #[(.int x0), (.int x1)] 2 = mkF m 0 #[.val (.int x0), .val (.int x1)] [] := by first | (simp [entryFrame, mkF, argsToLocals, Value.category]; done) | rfl
set_option maxRecDepth 65536 in
set_option maxHeartbeats 40000000 in
theorem own_min (l : Launch) (Z : State) (a0 : Array Value) (hw : ∀ d ∈ tables_1, d.before a0 Z = true) (ws : List Jvm.Cond) (y1 y2 : Int32) (h0 : Heap) (n0 : Nat) (Z0 : n0 ≤ h0.size)  :
    MetFree l (⟨"java/lang/Math", "min", "(II)I"⟩ : MethodName) (head1 (Jvm.Cond.code (⟨"java/lang/Math", "min", "(II)I"⟩ : MethodName) jdk_29_method_69_code 2 (some .int) :: ws) ({ frames := 0, cells := 0, slots := 0, locals := 0 } : Room)) (fun a U => a = #[(.int y1), (.int y2)] ∧ Z.Warmed39 U.vm ∧ U.heap = h0) (fun _ _ _ _ _ => True) (fun _ U o U' => ∃ v L, o = .returned v ∧ own_min_Q Z y1 y2 h0 n0 v U'.heap L ∧ FrameEnd U o U' L ({ frames := 0, cells := 0, slots := 0, locals := 0 } : Room).cells ({ frames := 0, cells := 0, slots := 0, locals := 0 } : Room).slots) := by
  refine MetFree.of_bodySF (Jvm.Free.JP.mathPlain rfl (by decide +kernel)) hisR ?_
  intro p e s m args below meth c s₁ Bd hml0 hP hK
  obtain ⟨rfl, hZ, hh⟩ := hP
  have hx := Bd.exec
  have hby := Bd.bytes
  have hml : c.maxLocals = 2 := hml0
  have hown : s.vm.findClass "java/lang/Math" = some m.cls := findClass_of_methodNamed Bd.named
  have hnm := (name_of_methodNamed Bd.named Bd.method).1
  have X0 : Stand p l e ({ frames := 0, cells := 0, slots := 0, locals := 0 } : Room) s m #[(.int y1), (.int y2)] below meth c s₁ [] 0 0 := Stand.of_body Bd
  have e0 : s₁.heap = h0 := by rw [← hh, Bd.state]; rfl
  have N0 := Fr.nil n0
  have A0 : ∀ t, Steps p.tables e below (s₁.setTop (mkF m 0 #[.val (.int y1), .val (.int y2)] [])) t → Steps p.tables e below (s₁.setTop (entryFrame m #[(.int y1), (.int y2)] 2)) t := fun t k => castTop (own_min_ef m y1 y2) k
  have A7 : ∀ t, Steps p.tables e below (s₁.setTop (mkF m 2 #[.val (.int y1), .val (.int y2)] [(.int y2), (.int y1)])) t → Steps p.tables e below (s₁.setTop (entryFrame m #[(.int y1), (.int y2)] 2)) t := by
    intro t k
    refine A0 _ ?_
    refine XS.iloadN X0.here hx rfl (hb hby dm_0) rfl ?_
    show Steps p.tables e below (s₁.setTop (mkF m 1 #[.val (.int y1), .val (.int y2)] [(.int y1)])) _
    refine XS.iloadN X0.here hx rfl (hb hby dm_1) rfl ?_
    show Steps p.tables e below (s₁.setTop (mkF m 2 #[.val (.int y1), .val (.int y2)] [(.int y2), (.int y1)])) _
    exact k
  by_cases hc8 : y2 < y1
  · have A9 : ∀ t, Steps p.tables e below (s₁.setTop (mkF m 10 #[.val (.int y1), .val (.int y2)] [(.int y2)])) t → Steps p.tables e below (s₁.setTop (entryFrame m #[(.int y1), (.int y2)] 2)) t := by
      intro t k
      refine A7 _ ?_
      refine XS.icmpYes X0.here hx rfl (pc0 := 2) (pc' := 9) rfl (hb hby dm_2) rfl (tlt hc8).2.2.1 (by decide) (by decide) ?_
      show Steps p.tables e below (s₁.setTop (mkF m 9 #[.val (.int y1), .val (.int y2)] [])) _
      refine XS.iloadN X0.here hx rfl (hb hby dm_9) rfl ?_
      show Steps p.tables e below (s₁.setTop (mkF m 10 #[.val (.int y1), .val (.int y2)] [(.int y2)])) _
      exact k
    obtain ⟨fs, hr, hrun, hended, hW, hsame⟩ := X0.leave (v := some (.int y2)) (fun h => by rw [Bd.returns] at h; cases h)
    refine ⟨_, _, A9 _ ?_, hrun, hended, _, _, rfl, ?_, ⟨_, rfl⟩, hW, hsame.mono (by decide) (by decide)⟩
    · exact retOut X0 hx Bd.returns rfl (Or.inl ⟨rfl, Or.inl rfl, _, rfl⟩) (hb hby dm_10) hr
    · show own_min_Q Z y1 y2 h0 n0 _ s₁.heap _
      rw [e0]
      exact ⟨by simp [hc8], N0, rfl⟩
  · have A10 : ∀ t, Steps p.tables e below (s₁.setTop (mkF m 10 #[.val (.int y1), .val (.int y2)] [(.int y1)])) t → Steps p.tables e below (s₁.setTop (entryFrame m #[(.int y1), (.int y2)] 2)) t := by
      intro t k
      refine A7 _ ?_
      refine XS.icmpNo X0.here hx rfl (hb hby dm_2) rfl (flt hc8).2.2.1 ?_
      show Steps p.tables e below (s₁.setTop (mkF m 5 #[.val (.int y1), .val (.int y2)] [])) _
      refine XS.iloadN X0.here hx rfl (hb hby dm_5) rfl ?_
      show Steps p.tables e below (s₁.setTop (mkF m 6 #[.val (.int y1), .val (.int y2)] [(.int y1)])) _
      refine XS.goto X0.here hx rfl (pc0 := 6) (pc' := 10) rfl (hb hby dm_6) (by decide) (by decide) ?_
      show Steps p.tables e below (s₁.setTop (mkF m 10 #[.val (.int y1), .val (.int y2)] [(.int y1)])) _
      exact k
    obtain ⟨fs, hr, hrun, hended, hW, hsame⟩ := X0.leave (v := some (.int y1)) (fun h => by rw [Bd.returns] at h; cases h)
    refine ⟨_, _, A10 _ ?_, hrun, hended, _, _, rfl, ?_, ⟨_, rfl⟩, hW, hsame.mono (by decide) (by decide)⟩
    · exact retOut X0 hx Bd.returns rfl (Or.inl ⟨rfl, Or.inl rfl, _, rfl⟩) (hb hby dm_10) hr
    · show own_min_Q Z y1 y2 h0 n0 _ s₁.heap _
      rw [e0]
      exact ⟨by simp [hc8], N0, rfl⟩
def own_isE_Q (Z : State) (xh xt : Addr) (y1 y2 : Int32) (h0 : Heap) (n0 : Nat) (v : Option Value) (h : Heap) (L : List Loc) : Prop := v = some (.int (if xh = xt then (if y1 = y2 then (1 : Int32) else 0) else 0)) ∧ Fr n0 L ∧ h = h0
theorem own_isE_ef (m : MethodId) (x0 : Addr) : entryFrame m #[(.ref x0)] 1 = mkF m 0 #[.val (.ref x0)] [] := by first | (simp [entryFrame, mkF, argsToLocals, Value.category]; done) | rfl
set_option maxRecDepth 65536 in
set_option maxHeartbeats 40000000 in
theorem own_isE (l : Launch) (Z : State) (a0 : Array Value) (hw : ∀ d ∈ tables_1, d.before a0 Z = true) (ws : List Jvm.Cond) (xq xh xt : Addr) (y1 y2 : Int32) (h0 : Heap) (n0 : Nat) (Z0 : n0 ≤ h0.size) (FH : Fld Z h0 xq "com/example/fly_agaric/flyagaric/ChunkedQueue" "head" "[Ljava/lang/Object;" (.ref xh)) (FA : Fld Z h0 xq "com/example/fly_agaric/flyagaric/ChunkedQueue" "headAt" "I" (.int y1)) (FT : Fld Z h0 xq "com/example/fly_agaric/flyagaric/ChunkedQueue" "tail" "[Ljava/lang/Object;" (.ref xt)) (FB : Fld Z h0 xq "com/example/fly_agaric/flyagaric/ChunkedQueue" "tailAt" "I" (.int y2)) :
    MetFree l (⟨"com/example/fly_agaric/flyagaric/ChunkedQueue", "isEmpty", "()Z"⟩ : MethodName) (head1 (Jvm.Cond.code (⟨"com/example/fly_agaric/flyagaric/ChunkedQueue", "isEmpty", "()Z"⟩ : MethodName) prog_9_method_2_code 1 (some .boolean) :: ws) ({ frames := 0, cells := 0, slots := 0, locals := 0 } : Room)) (fun a U => a = #[(.ref xq)] ∧ Z.Warmed39 U.vm ∧ U.heap = h0) (fun _ _ _ _ _ => True) (fun _ U o U' => ∃ v L, o = .returned v ∧ own_isE_Q Z xh xt y1 y2 h0 n0 v U'.heap L ∧ FrameEnd U o U' L ({ frames := 0, cells := 0, slots := 0, locals := 0 } : Room).cells ({ frames := 0, cells := 0, slots := 0, locals := 0 } : Room).slots) := by
  refine MetFree.of_bodySF (plainFor_of_name own_pn1) hisR ?_
  intro p e s m args below meth c s₁ Bd hml0 hP hK
  obtain ⟨rfl, hZ, hh⟩ := hP
  have hx := Bd.exec
  have hby := Bd.bytes
  have hml : c.maxLocals = 1 := hml0
  have hown : s.vm.findClass "com/example/fly_agaric/flyagaric/ChunkedQueue" = some m.cls := findClass_of_methodNamed Bd.named
  have hnm := (name_of_methodNamed Bd.named Bd.method).1
  have X0 : Stand p l e ({ frames := 0, cells := 0, slots := 0, locals := 0 } : Room) s m #[(.ref xq)] below meth c s₁ [] 0 0 := Stand.of_body Bd
  have e0 : s₁.heap = h0 := by rw [← hh, Bd.state]; rfl
  have N0 := Fr.nil n0
  have A0 : ∀ t, Steps p.tables e below (s₁.setTop (mkF m 0 #[.val (.ref xq)] [])) t → Steps p.tables e below (s₁.setTop (entryFrame m #[(.ref xq)] 1)) t := fun t k => castTop (own_isE_ef m xq) k
  have A11 : ∀ t, Steps p.tables e below (s₁.setTop (mkF m 1 #[.val (.ref xq)] [(.ref xq)])) t → Steps p.tables e below (s₁.setTop (entryFrame m #[(.ref xq)] 1)) t := by
    intro t k
    refine A0 _ ?_
    refine XS.aloadN X0.here hx rfl (hb hby de_0) rfl rfl ?_
    show Steps p.tables e below (s₁.setTop (mkF m 1 #[.val (.ref xq)] [(.ref xq)])) _
    exact k
  obtain ⟨T12, X12, e12, st12⟩ := getF X0 hx hZ hown (host := "") (Or.inl (hw _ (List.mem_of_getElem? (i := 11) rfl))) Via.refl e0 FH (g := (mkF m 1 #[.val (.ref xq)] [(.ref xq)])) rfl rfl (hb hby de_1)
  have A13 : ∀ t, Steps p.tables e below (T12.setTop (mkF m 5 #[.val (.ref xq)] [(.ref xq), (.ref xh)])) t → Steps p.tables e below (s₁.setTop (entryFrame m #[(.ref xq)] 1)) t := by
    intro t k
    refine A11 _ ?_
    refine st12 _ ?_
    show Steps p.tables e below (T12.setTop (mkF m 4 #[.val (.ref xq)] [(.ref xh)])) _
    refine XS.aloadN X12.here hx rfl (hb hby de_4) rfl rfl ?_
    show Steps p.tables e below (T12.setTop (mkF m 5 #[.val (.ref xq)] [(.ref xq), (.ref xh)])) _
    exact k
  obtain ⟨T14, X14, e14, st14⟩ := getF X12 hx hZ hown (host := "") (Or.inl (hw _ (List.mem_of_getElem? (i := 13) rfl))) Via.refl e12 FT (g := (mkF m 5 #[.val (.ref xq)] [(.ref xq), (.ref xh)])) rfl rfl (hb hby de_5)
  have A15 : ∀ t, Steps p.tables e below (T14.setTop (mkF m 8 #[.val (.ref xq)] [(.ref xt), (.ref xh)])) t → Steps p.tables e below (s₁.setTop (entryFrame m #[(.ref xq)] 1)) t := by
    intro t k
    refine A13 _ ?_
    refine st14 _ ?_
    show Steps p.tables e below (T14.setTop (mkF m 8 #[.val (.ref xq)] [(.ref xt), (.ref xh)])) _
    exact k
  by_cases hc16 : xh = xt
  · have A17 : ∀ t, Steps p.tables e below (T14.setTop (mkF m 12 #[.val (.ref xq)] [(.ref xq)])) t → Steps p.tables e below (s₁.setTop (entryFrame m #[(.ref xq)] 1)) t := by
      intro t k
      refine A15 _ ?_
      refine Jvm.RoadKit.acmp (g := (mkF m 8 #[.val (.ref xq)] [(.ref xt), (.ref xh)])) X14 hx rfl rfl rfl (pc0 := 8) (pc' := 11) (same := true) rfl (hb hby de_8) rfl (decide_eq_true (congrArg Value.ref hc16)) (by decide) (by decide) ?_
      show Steps p.tables e below (T14.setTop (mkF m 11 #[.val (.ref xq)] [])) _
      refine XS.aloadN X14.here hx rfl (hb hby de_11) rfl rfl ?_
      show Steps p.tables e below (T14.setTop (mkF m 12 #[.val (.ref xq)] [(.ref xq)])) _
      exact k
    obtain ⟨T18, X18, e18, st18⟩ := getF X14 hx hZ hown (host := "") (Or.inl (hw _ (List.mem_of_getElem? (i := 20) rfl))) Via.refl e14 FA (g := (mkF m 12 #[.val (.ref xq)] [(.ref xq)])) rfl rfl (hb hby de_12)
    have A19 : ∀ t, Steps p.tables e below (T18.setTop (mkF m 16 #[.val (.ref xq)] [(.ref xq), (.int y1)])) t → Steps p.tables e below (s₁.setTop (entryFrame m #[(.ref xq)] 1)) t := by
      intro t k
      refine A17 _ ?_
      refine st18 _ ?_
      show Steps p.tables e below (T18.setTop (mkF m 15 #[.val (.ref xq)] [(.int y1)])) _
      refine XS.aloadN X18.here hx rfl (hb hby de_15) rfl rfl ?_
      show Steps p.tables e below (T18.setTop (mkF m 16 #[.val (.ref xq)] [(.ref xq), (.int y1)])) _
      exact k
    obtain ⟨T20, X20, e20, st20⟩ := getF X18 hx hZ hown (host := "") (Or.inl (hw _ (List.mem_of_getElem? (i := 22) rfl))) Via.refl e18 FB (g := (mkF m 16 #[.val (.ref xq)] [(.ref xq), (.int y1)])) rfl rfl (hb hby de_16)
    have A21 : ∀ t, Steps p.tables e below (T20.setTop (mkF m 19 #[.val (.ref xq)] [(.int y2), (.int y1)])) t → Steps p.tables e below (s₁.setTop (entryFrame m #[(.ref xq)] 1)) t := by
      intro t k
      refine A19 _ ?_
      refine st20 _ ?_
      show Steps p.tables e below (T20.setTop (mkF m 19 #[.val (.ref xq)] [(.int y2), (.int y1)])) _
      exact k
    by_cases hc22 : y1 = y2
    · have A23 : ∀ t, Steps p.tables e below (T20.setTop (mkF m 27 #[.val (.ref xq)] [(.int (1 : Int32))])) t → Steps p.tables e below (s₁.setTop (entryFrame m #[(.ref xq)] 1)) t := by
        intro t k
        refine A21 _ ?_
        refine XS.icmpNo X20.here hx rfl (hb hby de_19) rfl (teq hc22).2 ?_
        show Steps p.tables e below (T20.setTop (mkF m 22 #[.val (.ref xq)] [])) _
        refine XS.iconst X20.here hx rfl (hb hby de_22) ?_
        show Steps p.tables e below (T20.setTop (mkF m 23 #[.val (.ref xq)] [(.int (1 : Int32))])) _
        refine XS.goto X20.here hx rfl (pc0 := 23) (pc' := 27) rfl (hb hby de_23) (by decide) (by decide) ?_
        show Steps p.tables e below (T20.setTop (mkF m 27 #[.val (.ref xq)] [(.int (1 : Int32))])) _
        exact k
      obtain ⟨fs, hr, hrun, hended, hW, hsame⟩ := X20.leave (v := some (.int (1 : Int32))) (fun h => by rw [Bd.returns] at h; cases h)
      refine ⟨_, _, A23 _ ?_, hrun, hended, _, _, rfl, ?_, ⟨_, rfl⟩, hW, hsame.mono (by decide) (by decide)⟩
      · exact retN X20 hx (t := .boolean) Bd.returns (by simp) (hb hby de_27) hr
      · show own_isE_Q Z xh xt y1 y2 h0 n0 _ T20.heap _
        rw [e20]
        exact ⟨by simp [hc16, hc22], N0, rfl⟩
    · have A24 : ∀ t, Steps p.tables e below (T20.setTop (mkF m 27 #[.val (.ref xq)] [(.int (0 : Int32))])) t → Steps p.tables e below (s₁.setTop (entryFrame m #[(.ref xq)] 1)) t := by
        intro t k
        refine A21 _ ?_
        refine XS.icmpYes X20.here hx rfl (pc0 := 19) (pc' := 26) rfl (hb hby de_19) rfl (feq hc22).2 (by decide) (by decide) ?_
        show Steps p.tables e below (T20.setTop (mkF m 26 #[.val (.ref xq)] [])) _
        refine XS.iconst X20.here hx rfl (hb hby de_26) ?_
        show Steps p.tables e below (T20.setTop (mkF m 27 #[.val (.ref xq)] [(.int (0 : Int32))])) _
        exact k
      obtain ⟨fs, hr, hrun, hended, hW, hsame⟩ := X20.leave (v := some (.int (0 : Int32))) (fun h => by rw [Bd.returns] at h; cases h)
      refine ⟨_, _, A24 _ ?_, hrun, hended, _, _, rfl, ?_, ⟨_, rfl⟩, hW, hsame.mono (by decide) (by decide)⟩
      · exact retN X20 hx (t := .boolean) Bd.returns (by simp) (hb hby de_27) hr
      · show own_isE_Q Z xh xt y1 y2 h0 n0 _ T20.heap _
        rw [e20]
        exact ⟨by simp [hc16, hc22], N0, rfl⟩
  · have A25 : ∀ t, Steps p.tables e below (T14.setTop (mkF m 27 #[.val (.ref xq)] [(.int (0 : Int32))])) t → Steps p.tables e below (s₁.setTop (entryFrame m #[(.ref xq)] 1)) t := by
      intro t k
      refine A15 _ ?_
      refine Jvm.RoadKit.acmp (g := (mkF m 8 #[.val (.ref xq)] [(.ref xt), (.ref xh)])) X14 hx rfl rfl rfl (pc0 := 8) (pc' := 26) (same := false) rfl (hb hby de_8) rfl (decide_eq_false fun q => hc16 (Value.ref.inj q)) (by decide) (by decide) ?_
      show Steps p.tables e below (T14.setTop (mkF m 26 #[.val (.ref xq)] [])) _
      refine XS.iconst X14.here hx rfl (hb hby de_26) ?_
      show Steps p.tables e below (T14.setTop (mkF m 27 #[.val (.ref xq)] [(.int (0 : Int32))])) _
      exact k
    obtain ⟨fs, hr, hrun, hended, hW, hsame⟩ := X14.leave (v := some (.int (0 : Int32))) (fun h => by rw [Bd.returns] at h; cases h)
    refine ⟨_, _, A25 _ ?_, hrun, hended, _, _, rfl, ?_, ⟨_, rfl⟩, hW, hsame.mono (by decide) (by decide)⟩
    · exact retN X14 hx (t := .boolean) Bd.returns (by simp) (hb hby de_27) hr
    · show own_isE_Q Z xh xt y1 y2 h0 n0 _ T14.heap _
      rw [e14]
      exact ⟨by simp [hc16], N0, rfl⟩
def own_pk0_Q (Z : State) (h0 : Heap) (n0 : Nat) (v : Option Value) (h : Heap) (L : List Loc) : Prop := v = some .null ∧ Fr n0 L ∧ h = h0
theorem own_pk0_ef (m : MethodId) (x0 : Addr) : entryFrame m #[(.ref x0)] 1 = mkF m 0 #[.val (.ref x0)] [] := by first | (simp [entryFrame, mkF, argsToLocals, Value.category]; done) | rfl
set_option maxRecDepth 65536 in
set_option maxHeartbeats 40000000 in
theorem own_pk0 (l : Launch) (Z : State) (a0 : Array Value) (hw : ∀ d ∈ tables_1, d.before a0 Z = true) (ws : List Jvm.Cond) (xq xh : Addr) (y1 : Int32) (h0 : Heap) (n0 : Nat) (Z0 : n0 ≤ h0.size) (E0 : Exa Z h0 xq "com/example/fly_agaric/flyagaric/ChunkedQueue") (FH : Fld Z h0 xq "com/example/fly_agaric/flyagaric/ChunkedQueue" "head" "[Ljava/lang/Object;" (.ref xh)) (FA : Fld Z h0 xq "com/example/fly_agaric/flyagaric/ChunkedQueue" "headAt" "I" (.int y1)) (FT : Fld Z h0 xq "com/example/fly_agaric/flyagaric/ChunkedQueue" "tail" "[Ljava/lang/Object;" (.ref xh)) (FB : Fld Z h0 xq "com/example/fly_agaric/flyagaric/ChunkedQueue" "tailAt" "I" (.int y1)) :
    MetFree l (⟨"com/example/fly_agaric/flyagaric/ChunkedQueue", "peek", "()Ljava/lang/Object;"⟩ : MethodName) (head1 (Jvm.Cond.code (⟨"com/example/fly_agaric/flyagaric/ChunkedQueue", "peek", "()Ljava/lang/Object;"⟩ : MethodName) prog_9_method_4_code 1 (some (.object "java/lang/Object")) :: ws) ({ frames := 1, cells := 0, slots := 0, locals := 12 } : Room)) (fun a U => a = #[(.ref xq)] ∧ Z.Warmed39 U.vm ∧ U.heap = h0) (fun _ _ _ _ _ => True) (fun _ U o U' => ∃ v L, o = .returned v ∧ own_pk0_Q Z  h0 n0 v U'.heap L ∧ FrameEnd U o U' L ({ frames := 1, cells := 0, slots := 0, locals := 12 } : Room).cells ({ frames := 1, cells := 0, slots := 0, locals := 12 } : Room).slots) := by
  refine MetFree.of_bodySF (plainFor_of_name own_pn1) hisR ?_
  intro p e s m args below meth c s₁ Bd hml0 hP hK
  obtain ⟨rfl, hZ, hh⟩ := hP
  have hx := Bd.exec
  have hby := Bd.bytes
  have hml : c.maxLocals = 1 := hml0
  have hown : s.vm.findClass "com/example/fly_agaric/flyagaric/ChunkedQueue" = some m.cls := findClass_of_methodNamed Bd.named
  have hnm := (name_of_methodNamed Bd.named Bd.method).1
  have X0 : Stand p l e ({ frames := 1, cells := 0, slots := 0, locals := 12 } : Room) s m #[(.ref xq)] below meth c s₁ [] 0 0 := Stand.of_body Bd
  have e0 : s₁.heap = h0 := by rw [← hh, Bd.state]; rfl
  have N0 := Fr.nil n0
  have A0 : ∀ t, Steps p.tables e below (s₁.setTop (mkF m 0 #[.val (.ref xq)] [])) t → Steps p.tables e below (s₁.setTop (entryFrame m #[(.ref xq)] 1)) t := fun t k => castTop (own_pk0_ef m xq) k
  have A26 : ∀ t, Steps p.tables e below (s₁.setTop (mkF m 1 #[.val (.ref xq)] [(.ref xq)])) t → Steps p.tables e below (s₁.setTop (entryFrame m #[(.ref xq)] 1)) t := by
    intro t k
    refine A0 _ ?_
    refine XS.aloadN X0.here hx rfl (hb hby dk_0) rfl rfl ?_
    show Steps p.tables e below (s₁.setTop (mkF m 1 #[.val (.ref xq)] [(.ref xq)])) _
    exact k
  obtain ⟨cq27, kq27, q27a, q27b, q27c⟩ := isOf hZ e0 E0
  obtain ⟨_, _, ⟨T27, L27, k27, n27⟩, -, X27, ⟨Lc27, hQ27, l27, y27, z27⟩, st27⟩ := X0.virtualBack hx (y := (⟨"com/example/fly_agaric/flyagaric/ChunkedQueue", "isEmpty", "()Z"⟩ : MethodName)) (z := (⟨"com/example/fly_agaric/flyagaric/ChunkedQueue", "isEmpty", "()Z"⟩ : MethodName)) hown (mvT hZ (hw _ (List.mem_of_getElem? (i := 38) rfl))) (mvT hZ (hw _ (List.mem_of_getElem? (i := 16) rfl))) (notFace_of_selects (args := #[]) (mvT hZ (hw _ (List.mem_of_getElem? (i := 18) rfl)))) (mvT hZ (hw _ (List.mem_of_getElem? (i := 18) rfl))) (mvT hZ (hw _ (List.mem_of_getElem? (i := 17) rfl))) (by decide) (backOf (W := 0) (own_isE l Z a0 hw [] xq xh xh y1 y1 h0 n0 Z0 FH FA FT FB) hZ (hw _ (List.mem_of_getElem? (i := 19) rfl)) (hw _ (List.mem_of_getElem? (i := 2) rfl)) (by decide) (by decide)) q27a q27c (g := (mkF m 1 #[.val (.ref xq)] [(.ref xq)])) rfl (by rw [hml]; rfl) (Steps.refl _) (argsL := []) (rest := []) (lenOf own_pd0 rfl) rfl (by show 2 * 0 + _ ≤ _; exact Nat.le_of_eq rfl) (hb hby dk_1) (fun _ _ => ⟨rfl, e0, (by decide : 0 + 0 ≤ _), (by decide : 0 + 0 ≤ _)⟩)
  dsimp only [Pt.U, Pt.locs, Pt.cells, Pt.slots] at X27 l27 y27 z27 st27 hQ27
  subst l27 y27 z27
  obtain ⟨rfl, Nq27, eh27⟩ := hQ27
  have Nf28 := Fr.app N0 Nq27
  have A29 : ∀ t, Steps p.tables e below (T27.setTop (mkF m 4 #[.val (.ref xq)] [(.int (if xh = xh then (if y1 = y1 then (1 : Int32) else 0) else 0))])) t → Steps p.tables e below (s₁.setTop (entryFrame m #[(.ref xq)] 1)) t := by
    intro t k
    refine A26 _ ?_
    refine st27.trans ?_
    show Steps p.tables e below (T27.setTop (mkF m 4 #[.val (.ref xq)] [(.int (if xh = xh then (if y1 = y1 then (1 : Int32) else 0) else 0))])) _
    exact k
  have hw30 : (if xh = xh then (if y1 = y1 then (1 : Int32) else 0) else 0) = (1 : Int32) := by simp
  rw [hw30] at A29
  have A31 : ∀ t, Steps p.tables e below (T27.setTop (mkF m 20 #[.val (.ref xq)] [.null])) t → Steps p.tables e below (s₁.setTop (entryFrame m #[(.ref xq)] 1)) t := by
    intro t k
    refine A29 _ ?_
    refine XS.ifNo X27.here hx rfl (hb hby dk_4) rfl ((if0 _ _).trans (feq (by decide : ¬ ((1 : Int32) = (0 : Int32)))).1) ?_
    show Steps p.tables e below (T27.setTop (mkF m 7 #[.val (.ref xq)] [])) _
    refine XS.aconstNull X27.here hx rfl (hb hby dk_7) ?_
    show Steps p.tables e below (T27.setTop (mkF m 8 #[.val (.ref xq)] [.null])) _
    refine XS.goto X27.here hx rfl (pc0 := 8) (pc' := 20) rfl (hb hby dk_8) (by decide) (by decide) ?_
    show Steps p.tables e below (T27.setTop (mkF m 20 #[.val (.ref xq)] [.null])) _
    exact k
  obtain ⟨fs, hr, hrun, hended, hW, hsame⟩ := X27.leave (v := some .null) (fun h => by rw [Bd.returns] at h; cases h)
  refine ⟨_, _, A31 _ ?_, hrun, hended, _, _, rfl, ?_, ⟨_, rfl⟩, hW, hsame.mono (by decide) (by decide)⟩
  · exact retOut X27 hx Bd.returns rfl (Or.inr (Or.inr (Or.inr (Or.inr ⟨rfl, rfl, rfl⟩)))) (hb hby dk_20) hr
  · show own_pk0_Q Z  h0 n0 _ T27.heap _
    rw [eh27]
    exact ⟨rfl, Nf28, rfl⟩
def own_pkS_Q (Z : State) (rr : Addr) (h0 : Heap) (n0 : Nat) (v : Option Value) (h : Heap) (L : List Loc) : Prop := v = some (.ref rr) ∧ Fr n0 L ∧ h = h0
theorem own_pkS_ef (m : MethodId) (x0 : Addr) : entryFrame m #[(.ref x0)] 1 = mkF m 0 #[.val (.ref x0)] [] := by first | (simp [entryFrame, mkF, argsToLocals, Value.category]; done) | rfl
set_option maxRecDepth 65536 in
set_option maxHeartbeats 40000000 in
theorem own_pkS (l : Launch) (Z : State) (a0 : Array Value) (hw : ∀ d ∈ tables_1, d.before a0 Z = true) (ws : List Jvm.Cond) (xq xh xt rr : Addr) (y1 y2 : Int32) (ch : Cell) (h0 : Heap) (n0 : Nat) (Z0 : n0 ≤ h0.size) (E0 : Exa Z h0 xq "com/example/fly_agaric/flyagaric/ChunkedQueue") (FH : Fld Z h0 xq "com/example/fly_agaric/flyagaric/ChunkedQueue" "head" "[Ljava/lang/Object;" (.ref xh)) (FA : Fld Z h0 xq "com/example/fly_agaric/flyagaric/ChunkedQueue" "headAt" "I" (.int y1)) (FT : Fld Z h0 xq "com/example/fly_agaric/flyagaric/ChunkedQueue" "tail" "[Ljava/lang/Object;" (.ref xt)) (FB : Fld Z h0 xq "com/example/fly_agaric/flyagaric/ChunkedQueue" "tailAt" "I" (.int y2)) (hne : (if xh = xt then (if y1 = y2 then (1 : Int32) else 0) else 0) = 0) (AH : Arr Z h0 xh ch (.object "java/lang/Object")) (hin : ¬ (y1 < 0 ∨ ch.slots.size ≤ y1.toNatClampNeg)) (hat : ch.slots[y1.toNatClampNeg]? = some (.ref rr)) :
    MetFree l (⟨"com/example/fly_agaric/flyagaric/ChunkedQueue", "peek", "()Ljava/lang/Object;"⟩ : MethodName) (head1 (Jvm.Cond.code (⟨"com/example/fly_agaric/flyagaric/ChunkedQueue", "peek", "()Ljava/lang/Object;"⟩ : MethodName) prog_9_method_4_code 1 (some (.object "java/lang/Object")) :: ws) ({ frames := 1, cells := 0, slots := 0, locals := 12 } : Room)) (fun a U => a = #[(.ref xq)] ∧ Z.Warmed39 U.vm ∧ U.heap = h0) (fun _ _ _ _ _ => True) (fun _ U o U' => ∃ v L, o = .returned v ∧ own_pkS_Q Z rr h0 n0 v U'.heap L ∧ FrameEnd U o U' L ({ frames := 1, cells := 0, slots := 0, locals := 12 } : Room).cells ({ frames := 1, cells := 0, slots := 0, locals := 12 } : Room).slots) := by
  refine MetFree.of_bodySF (plainFor_of_name own_pn1) hisR ?_
  intro p e s m args below meth c s₁ Bd hml0 hP hK
  obtain ⟨rfl, hZ, hh⟩ := hP
  have hx := Bd.exec
  have hby := Bd.bytes
  have hml : c.maxLocals = 1 := hml0
  have hown : s.vm.findClass "com/example/fly_agaric/flyagaric/ChunkedQueue" = some m.cls := findClass_of_methodNamed Bd.named
  have hnm := (name_of_methodNamed Bd.named Bd.method).1
  have X0 : Stand p l e ({ frames := 1, cells := 0, slots := 0, locals := 12 } : Room) s m #[(.ref xq)] below meth c s₁ [] 0 0 := Stand.of_body Bd
  have e0 : s₁.heap = h0 := by rw [← hh, Bd.state]; rfl
  have N0 := Fr.nil n0
  have A0 : ∀ t, Steps p.tables e below (s₁.setTop (mkF m 0 #[.val (.ref xq)] [])) t → Steps p.tables e below (s₁.setTop (entryFrame m #[(.ref xq)] 1)) t := fun t k => castTop (own_pkS_ef m xq) k
  have A32 : ∀ t, Steps p.tables e below (s₁.setTop (mkF m 1 #[.val (.ref xq)] [(.ref xq)])) t → Steps p.tables e below (s₁.setTop (entryFrame m #[(.ref xq)] 1)) t := by
    intro t k
    refine A0 _ ?_
    refine XS.aloadN X0.here hx rfl (hb hby dk_0) rfl rfl ?_
    show Steps p.tables e below (s₁.setTop (mkF m 1 #[.val (.ref xq)] [(.ref xq)])) _
    exact k
  obtain ⟨cq33, kq33, q33a, q33b, q33c⟩ := isOf hZ e0 E0
  obtain ⟨_, _, ⟨T33, L33, k33, n33⟩, -, X33, ⟨Lc33, hQ33, l33, y33, z33⟩, st33⟩ := X0.virtualBack hx (y := (⟨"com/example/fly_agaric/flyagaric/ChunkedQueue", "isEmpty", "()Z"⟩ : MethodName)) (z := (⟨"com/example/fly_agaric/flyagaric/ChunkedQueue", "isEmpty", "()Z"⟩ : MethodName)) hown (mvT hZ (hw _ (List.mem_of_getElem? (i := 38) rfl))) (mvT hZ (hw _ (List.mem_of_getElem? (i := 16) rfl))) (notFace_of_selects (args := #[]) (mvT hZ (hw _ (List.mem_of_getElem? (i := 18) rfl)))) (mvT hZ (hw _ (List.mem_of_getElem? (i := 18) rfl))) (mvT hZ (hw _ (List.mem_of_getElem? (i := 17) rfl))) (by decide) (backOf (W := 0) (own_isE l Z a0 hw [] xq xh xt y1 y2 h0 n0 Z0 FH FA FT FB) hZ (hw _ (List.mem_of_getElem? (i := 19) rfl)) (hw _ (List.mem_of_getElem? (i := 2) rfl)) (by decide) (by decide)) q33a q33c (g := (mkF m 1 #[.val (.ref xq)] [(.ref xq)])) rfl (by rw [hml]; rfl) (Steps.refl _) (argsL := []) (rest := []) (lenOf own_pd0 rfl) rfl (by show 2 * 0 + _ ≤ _; exact Nat.le_of_eq rfl) (hb hby dk_1) (fun _ _ => ⟨rfl, e0, (by decide : 0 + 0 ≤ _), (by decide : 0 + 0 ≤ _)⟩)
  dsimp only [Pt.U, Pt.locs, Pt.cells, Pt.slots] at X33 l33 y33 z33 st33 hQ33
  subst l33 y33 z33
  obtain ⟨rfl, Nq33, eh33⟩ := hQ33
  have Nf34 := Fr.app N0 Nq33
  have A35 : ∀ t, Steps p.tables e below (T33.setTop (mkF m 4 #[.val (.ref xq)] [(.int (if xh = xt then (if y1 = y2 then (1 : Int32) else 0) else 0))])) t → Steps p.tables e below (s₁.setTop (entryFrame m #[(.ref xq)] 1)) t := by
    intro t k
    refine A32 _ ?_
    refine st33.trans ?_
    show Steps p.tables e below (T33.setTop (mkF m 4 #[.val (.ref xq)] [(.int (if xh = xt then (if y1 = y2 then (1 : Int32) else 0) else 0))])) _
    exact k
  have hw36 : (if xh = xt then (if y1 = y2 then (1 : Int32) else 0) else 0) = (0 : Int32) := hne
  rw [hw36] at A35
  have A37 : ∀ t, Steps p.tables e below (T33.setTop (mkF m 12 #[.val (.ref xq)] [(.ref xq)])) t → Steps p.tables e below (s₁.setTop (entryFrame m #[(.ref xq)] 1)) t := by
    intro t k
    refine A35 _ ?_
    refine XS.ifYes X33.here hx rfl (pc0 := 4) (pc' := 11) rfl (hb hby dk_4) rfl ((if0 _ _).trans (teq (by decide : ((0 : Int32) = (0 : Int32)))).1) (by decide) (by decide) ?_
    show Steps p.tables e below (T33.setTop (mkF m 11 #[.val (.ref xq)] [])) _
    refine XS.aloadN X33.here hx rfl (hb hby dk_11) rfl rfl ?_
    show Steps p.tables e below (T33.setTop (mkF m 12 #[.val (.ref xq)] [(.ref xq)])) _
    exact k
  obtain ⟨T38, X38, e38, st38⟩ := getF X33 hx hZ hown (host := "") (Or.inl (hw _ (List.mem_of_getElem? (i := 11) rfl))) Via.refl eh33 FH (g := (mkF m 12 #[.val (.ref xq)] [(.ref xq)])) rfl rfl (hb hby dk_12)
  have A39 : ∀ t, Steps p.tables e below (T38.setTop (mkF m 16 #[.val (.ref xq)] [(.ref xq), (.ref xh)])) t → Steps p.tables e below (s₁.setTop (entryFrame m #[(.ref xq)] 1)) t := by
    intro t k
    refine A37 _ ?_
    refine st38 _ ?_
    show Steps p.tables e below (T38.setTop (mkF m 15 #[.val (.ref xq)] [(.ref xh)])) _
    refine XS.aloadN X38.here hx rfl (hb hby dk_15) rfl rfl ?_
    show Steps p.tables e below (T38.setTop (mkF m 16 #[.val (.ref xq)] [(.ref xq), (.ref xh)])) _
    exact k
  obtain ⟨T40, X40, e40, st40⟩ := getF X38 hx hZ hown (host := "") (Or.inl (hw _ (List.mem_of_getElem? (i := 20) rfl))) Via.refl e38 FA (g := (mkF m 16 #[.val (.ref xq)] [(.ref xq), (.ref xh)])) rfl rfl (hb hby dk_16)
  have A41 : ∀ t, Steps p.tables e below (T40.setTop (mkF m 20 #[.val (.ref xq)] [(.ref rr)])) t → Steps p.tables e below (s₁.setTop (entryFrame m #[(.ref xq)] 1)) t := by
    intro t k
    refine A39 _ ?_
    refine st40 _ ?_
    show Steps p.tables e below (T40.setTop (mkF m 19 #[.val (.ref xq)] [(.int y1), (.ref xh)])) _
    refine X40.aaload hx (j := y1) (v := (.ref rr)) (by rw [e40]; exact AH.1) (State.isArrayOf_alike hZ.alike AH.2.1) rfl AH.2.2 hin hat (g := (mkF m 19 #[.val (.ref xq)] [(.int y1), (.ref xh)])) rfl rfl (hb hby dk_19) _ ?_
    show Steps p.tables e below (T40.setTop (mkF m 20 #[.val (.ref xq)] [(.ref rr)])) _
    exact k
  obtain ⟨fs, hr, hrun, hended, hW, hsame⟩ := X40.leave (v := some (.ref rr)) (fun h => by rw [Bd.returns] at h; cases h)
  refine ⟨_, _, A41 _ ?_, hrun, hended, _, _, rfl, ?_, ⟨_, rfl⟩, hW, hsame.mono (by decide) (by decide)⟩
  · exact retOut X40 hx Bd.returns rfl (Or.inr (Or.inr (Or.inr (Or.inr ⟨rfl, rfl, rfl⟩)))) (hb hby dk_20) hr
  · show own_pkS_Q Z rr h0 n0 _ T40.heap _
    rw [e40]
    exact ⟨rfl, Nf34, rfl⟩
def own_po0_Q (Z : State) (h0 : Heap) (n0 : Nat) (v : Option Value) (h : Heap) (L : List Loc) : Prop := v = some .null ∧ Fr n0 L ∧ h = h0
theorem own_po0_ef (m : MethodId) (x0 : Addr) : entryFrame m #[(.ref x0)] 2 = mkF m 0 #[.val (.ref x0), .unset] [] := by first | (simp [entryFrame, mkF, argsToLocals, Value.category]; done) | rfl
set_option maxRecDepth 65536 in
set_option maxHeartbeats 40000000 in
theorem own_po0 (l : Launch) (Z : State) (a0 : Array Value) (hw : ∀ d ∈ tables_1, d.before a0 Z = true) (ws : List Jvm.Cond) (xq xh : Addr) (y1 : Int32) (h0 : Heap) (n0 : Nat) (Z0 : n0 ≤ h0.size) (E0 : Exa Z h0 xq "com/example/fly_agaric/flyagaric/ChunkedQueue") (FH : Fld Z h0 xq "com/example/fly_agaric/flyagaric/ChunkedQueue" "head" "[Ljava/lang/Object;" (.ref xh)) (FA : Fld Z h0 xq "com/example/fly_agaric/flyagaric/ChunkedQueue" "headAt" "I" (.int y1)) (FT : Fld Z h0 xq "com/example/fly_agaric/flyagaric/ChunkedQueue" "tail" "[Ljava/lang/Object;" (.ref xh)) (FB : Fld Z h0 xq "com/example/fly_agaric/flyagaric/ChunkedQueue" "tailAt" "I" (.int y1)) :
    MetFree l (⟨"com/example/fly_agaric/flyagaric/ChunkedQueue", "poll", "()Ljava/lang/Object;"⟩ : MethodName) (head1 (Jvm.Cond.code (⟨"com/example/fly_agaric/flyagaric/ChunkedQueue", "poll", "()Ljava/lang/Object;"⟩ : MethodName) prog_9_method_6_code 2 (some (.object "java/lang/Object")) :: ws) ({ frames := 2, cells := 0, slots := 0, locals := 24 } : Room)) (fun a U => a = #[(.ref xq)] ∧ Z.Warmed39 U.vm ∧ U.heap = h0) (fun _ _ _ _ _ => True) (fun _ U o U' => ∃ v L, o = .returned v ∧ own_po0_Q Z  h0 n0 v U'.heap L ∧ FrameEnd U o U' L ({ frames := 2, cells := 0, slots := 0, locals := 24 } : Room).cells ({ frames := 2, cells := 0, slots := 0, locals := 24 } : Room).slots) := by
  refine MetFree.of_bodySF (plainFor_of_name own_pn1) hisR ?_
  intro p e s m args below meth c s₁ Bd hml0 hP hK
  obtain ⟨rfl, hZ, hh⟩ := hP
  have hx := Bd.exec
  have hby := Bd.bytes
  have hml : c.maxLocals = 2 := hml0
  have hown : s.vm.findClass "com/example/fly_agaric/flyagaric/ChunkedQueue" = some m.cls := findClass_of_methodNamed Bd.named
  have hnm := (name_of_methodNamed Bd.named Bd.method).1
  have X0 : Stand p l e ({ frames := 2, cells := 0, slots := 0, locals := 24 } : Room) s m #[(.ref xq)] below meth c s₁ [] 0 0 := Stand.of_body Bd
  have e0 : s₁.heap = h0 := by rw [← hh, Bd.state]; rfl
  have N0 := Fr.nil n0
  have A0 : ∀ t, Steps p.tables e below (s₁.setTop (mkF m 0 #[.val (.ref xq), .unset] [])) t → Steps p.tables e below (s₁.setTop (entryFrame m #[(.ref xq)] 2)) t := fun t k => castTop (own_po0_ef m xq) k
  have A42 : ∀ t, Steps p.tables e below (s₁.setTop (mkF m 1 #[.val (.ref xq), .unset] [(.ref xq)])) t → Steps p.tables e below (s₁.setTop (entryFrame m #[(.ref xq)] 2)) t := by
    intro t k
    refine A0 _ ?_
    refine XS.aloadN X0.here hx rfl (hb hby dp_0) rfl rfl ?_
    show Steps p.tables e below (s₁.setTop (mkF m 1 #[.val (.ref xq), .unset] [(.ref xq)])) _
    exact k
  obtain ⟨cq43, kq43, q43a, q43b, q43c⟩ := isOf hZ e0 E0
  obtain ⟨_, _, ⟨T43, L43, k43, n43⟩, -, X43, ⟨Lc43, hQ43, l43, y43, z43⟩, st43⟩ := X0.virtualBack hx (y := (⟨"com/example/fly_agaric/flyagaric/ChunkedQueue", "peek", "()Ljava/lang/Object;"⟩ : MethodName)) (z := (⟨"com/example/fly_agaric/flyagaric/ChunkedQueue", "peek", "()Ljava/lang/Object;"⟩ : MethodName)) hown (mvT hZ (hw _ (List.mem_of_getElem? (i := 33) rfl))) (mvT hZ (hw _ (List.mem_of_getElem? (i := 34) rfl))) (notFace_of_selects (args := #[]) (mvT hZ (hw _ (List.mem_of_getElem? (i := 36) rfl)))) (mvT hZ (hw _ (List.mem_of_getElem? (i := 36) rfl))) (mvT hZ (hw _ (List.mem_of_getElem? (i := 35) rfl))) (by decide) (backOf (W := 0) (own_pk0 l Z a0 hw [] xq xh y1 h0 n0 Z0 E0 FH FA FT FB) hZ (hw _ (List.mem_of_getElem? (i := 37) rfl)) (hw _ (List.mem_of_getElem? (i := 2) rfl)) (by decide) (by decide)) q43a q43c (g := (mkF m 1 #[.val (.ref xq), .unset] [(.ref xq)])) rfl (by rw [hml]; rfl) (Steps.refl _) (argsL := []) (rest := []) (lenOf own_pd1 rfl) rfl (by show 2 * 0 + _ ≤ _; exact Nat.le_of_eq rfl) (hb hby dp_1) (fun _ _ => ⟨rfl, e0, (by decide : 0 + 0 ≤ _), (by decide : 0 + 0 ≤ _)⟩)
  dsimp only [Pt.U, Pt.locs, Pt.cells, Pt.slots] at X43 l43 y43 z43 st43 hQ43
  subst l43 y43 z43
  obtain ⟨rfl, Nq43, eh43⟩ := hQ43
  have Nf44 := Fr.app N0 Nq43
  have A45 : ∀ t, Steps p.tables e below (T43.setTop (mkF m 10 #[.val (.ref xq), .val .null] [.null])) t → Steps p.tables e below (s₁.setTop (entryFrame m #[(.ref xq)] 2)) t := by
    intro t k
    refine A42 _ ?_
    refine st43.trans ?_
    show Steps p.tables e below (T43.setTop (mkF m 4 #[.val (.ref xq), .unset] [.null])) _
    refine XS.astoreN X43.here hx rfl (hb hby dp_4) rfl rfl (l' := #[.val (.ref xq), .val .null]) rfl ?_
    show Steps p.tables e below (T43.setTop (mkF m 5 #[.val (.ref xq), .val .null] [])) _
    refine XS.aloadN X43.here hx rfl (hb hby dp_5) rfl rfl ?_
    show Steps p.tables e below (T43.setTop (mkF m 6 #[.val (.ref xq), .val .null] [.null])) _
    refine XS.ifnonnullNo X43.here hx rfl (hb hby dp_6) rfl ?_
    show Steps p.tables e below (T43.setTop (mkF m 9 #[.val (.ref xq), .val .null] [])) _
    refine XS.aconstNull X43.here hx rfl (hb hby dp_9) ?_
    show Steps p.tables e below (T43.setTop (mkF m 10 #[.val (.ref xq), .val .null] [.null])) _
    exact k
  obtain ⟨fs, hr, hrun, hended, hW, hsame⟩ := X43.leave (v := some .null) (fun h => by rw [Bd.returns] at h; cases h)
  refine ⟨_, _, A45 _ ?_, hrun, hended, _, _, rfl, ?_, ⟨_, rfl⟩, hW, hsame.mono (by decide) (by decide)⟩
  · exact retOut X43 hx Bd.returns rfl (Or.inr (Or.inr (Or.inr (Or.inr ⟨rfl, rfl, rfl⟩)))) (hb hby dp_10) hr
  · show own_po0_Q Z  h0 n0 _ T43.heap _
    rw [eh43]
    exact ⟨rfl, Nf44, rfl⟩
def own_poS_Q (Z : State) (xq : Addr) (k n : Nat) (h0 : Heap) (n0 : Nat) (v : Option Value) (h : Heap) (L : List Loc) : Prop := ∃ rr : Addr, v = some (.ref rr) ∧ Fr n0 L ∧ n0 ≤ h.size ∧ Exa Z Z.heap rr "java/lang/Integer" ∧ Old Z n0 h ∧ own_QI Z h xq n0 k (n - 1)
theorem own_poS_ef (m : MethodId) (x0 : Addr) : entryFrame m #[(.ref x0)] 2 = mkF m 0 #[.val (.ref x0), .unset] [] := by first | (simp [entryFrame, mkF, argsToLocals, Value.category]; done) | rfl
set_option maxRecDepth 65536 in
set_option maxHeartbeats 40000000 in
theorem own_poS (l : Launch) (Z : State) (a0 : Array Value) (hw : ∀ d ∈ tables_1, d.before a0 Z = true) (ws : List Jvm.Cond) (xq : Addr) (k : Nat) (xr : List (Addr × Nat)) (lo : Nat) (xh : Addr) (sz : Nat) (xt : Addr) (ts ta : Nat) (h0 : Heap) (n0 : Nat) (Z0 : n0 ≤ h0.size) (QC : own_QC Z h0 xq n0 k xr lo xh sz xt ts ta) (hp : 0 < own_cnt ta xr lo sz) (gq : n0 ≤ xq) (O0 : Old Z n0 h0) :
    MetFree l (⟨"com/example/fly_agaric/flyagaric/ChunkedQueue", "poll", "()Ljava/lang/Object;"⟩ : MethodName) (head1 (Jvm.Cond.code (⟨"com/example/fly_agaric/flyagaric/ChunkedQueue", "poll", "()Ljava/lang/Object;"⟩ : MethodName) prog_9_method_6_code 2 (some (.object "java/lang/Object")) :: ws) ({ frames := 2, cells := 0, slots := 0, locals := 24 } : Room)) (fun a U => a = #[(.ref xq)] ∧ Z.Warmed39 U.vm ∧ U.heap = h0) (fun _ _ _ _ _ => True) (fun _ U o U' => ∃ v L, o = .returned v ∧ own_poS_Q Z xq k (own_cnt ta xr lo sz) h0 n0 v U'.heap L ∧ FrameEnd U o U' L ({ frames := 2, cells := 0, slots := 0, locals := 24 } : Room).cells ({ frames := 2, cells := 0, slots := 0, locals := 24 } : Room).slots) := by
  refine MetFree.of_bodySF (plainFor_of_name own_pn1) hisR ?_
  intro p e s m args below meth c s₁ Bd hml0 hP hK
  obtain ⟨rfl, hZ, hh⟩ := hP
  have hx := Bd.exec
  have hby := Bd.bytes
  have hml : c.maxLocals = 2 := hml0
  have hown : s.vm.findClass "com/example/fly_agaric/flyagaric/ChunkedQueue" = some m.cls := findClass_of_methodNamed Bd.named
  have hnm := (name_of_methodNamed Bd.named Bd.method).1
  have X0 : Stand p l e ({ frames := 2, cells := 0, slots := 0, locals := 24 } : Room) s m #[(.ref xq)] below meth c s₁ [] 0 0 := Stand.of_body Bd
  have e0 : s₁.heap = h0 := by rw [← hh, Bd.state]; rfl
  have N0 := Fr.nil n0
  have A0 : ∀ t, Steps p.tables e below (s₁.setTop (mkF m 0 #[.val (.ref xq), .unset] [])) t → Steps p.tables e below (s₁.setTop (entryFrame m #[(.ref xq)] 2)) t := fun t k => castTop (own_poS_ef m xq) k
  have hbd := own_bnd QC
  have hev := own_isEv QC
  obtain ⟨E0, FH, FA, FT, FB, CH, SH, hnk⟩ := QC
  obtain ⟨ch, KH, hlo, rr, hat, ER⟩ := own_first CH SH.2.2.1 hp
  have hl31 : lo < 2 ^ 31 := by omega
  have hin : ¬ ((Nat.toInt32 lo) < 0 ∨ ch.slots.size ≤ (Nat.toInt32 lo).toNatClampNeg) := idx_in (n := ch.slots.size) (by rw [KH.2.1]; omega) (by rw [KH.2.1]; omega)
  rw [if_neg (Nat.pos_iff_ne_zero.mp hp)] at hev
  have A46 : ∀ t, Steps p.tables e below (s₁.setTop (mkF m 1 #[.val (.ref xq), .unset] [(.ref xq)])) t → Steps p.tables e below (s₁.setTop (entryFrame m #[(.ref xq)] 2)) t := by
    intro t k
    refine A0 _ ?_
    refine XS.aloadN X0.here hx rfl (hb hby dp_0) rfl rfl ?_
    show Steps p.tables e below (s₁.setTop (mkF m 1 #[.val (.ref xq), .unset] [(.ref xq)])) _
    exact k
  obtain ⟨cq47, kq47, q47a, q47b, q47c⟩ := isOf hZ e0 E0
  obtain ⟨_, _, ⟨T47, L47, k47, n47⟩, -, X47, ⟨Lc47, hQ47, l47, y47, z47⟩, st47⟩ := X0.virtualBack hx (y := (⟨"com/example/fly_agaric/flyagaric/ChunkedQueue", "peek", "()Ljava/lang/Object;"⟩ : MethodName)) (z := (⟨"com/example/fly_agaric/flyagaric/ChunkedQueue", "peek", "()Ljava/lang/Object;"⟩ : MethodName)) hown (mvT hZ (hw _ (List.mem_of_getElem? (i := 33) rfl))) (mvT hZ (hw _ (List.mem_of_getElem? (i := 34) rfl))) (notFace_of_selects (args := #[]) (mvT hZ (hw _ (List.mem_of_getElem? (i := 36) rfl)))) (mvT hZ (hw _ (List.mem_of_getElem? (i := 36) rfl))) (mvT hZ (hw _ (List.mem_of_getElem? (i := 35) rfl))) (by decide) (backOf (W := 0) (own_pkS l Z a0 hw [] xq xh xt rr (Nat.toInt32 lo) (Nat.toInt32 ta) ch h0 n0 Z0 E0 FH FA FT FB hev KH.1 hin (by rw [own_tn hl31]; exact hat)) hZ (hw _ (List.mem_of_getElem? (i := 37) rfl)) (hw _ (List.mem_of_getElem? (i := 2) rfl)) (by decide) (by decide)) q47a q47c (g := (mkF m 1 #[.val (.ref xq), .unset] [(.ref xq)])) rfl (by rw [hml]; rfl) (Steps.refl _) (argsL := []) (rest := []) (lenOf own_pd1 rfl) rfl (by show 2 * 0 + _ ≤ _; exact Nat.le_of_eq rfl) (hb hby dp_1) (fun _ _ => ⟨rfl, e0, (by decide : 0 + 0 ≤ _), (by decide : 0 + 0 ≤ _)⟩)
  dsimp only [Pt.U, Pt.locs, Pt.cells, Pt.slots] at X47 l47 y47 z47 st47 hQ47
  subst l47 y47 z47
  obtain ⟨rfl, Nq47, eh47⟩ := hQ47
  have Nf48 := Fr.app N0 Nq47
  have A49 : ∀ t, Steps p.tables e below (T47.setTop (mkF m 12 #[.val (.ref xq), .val (.ref rr)] [(.ref xq)])) t → Steps p.tables e below (s₁.setTop (entryFrame m #[(.ref xq)] 2)) t := by
    intro t k
    refine A46 _ ?_
    refine st47.trans ?_
    show Steps p.tables e below (T47.setTop (mkF m 4 #[.val (.ref xq), .unset] [(.ref rr)])) _
    refine XS.astoreN X47.here hx rfl (hb hby dp_4) rfl rfl (l' := #[.val (.ref xq), .val (.ref rr)]) rfl ?_
    show Steps p.tables e below (T47.setTop (mkF m 5 #[.val (.ref xq), .val (.ref rr)] [])) _
    refine XS.aloadN X47.here hx rfl (hb hby dp_5) rfl rfl ?_
    show Steps p.tables e below (T47.setTop (mkF m 6 #[.val (.ref xq), .val (.ref rr)] [(.ref rr)])) _
    refine XS.ifnonnullYes X47.here hx rfl (pc0 := 6) (pc' := 11) rfl (hb hby dp_6) rfl (by decide) (by decide) ?_
    show Steps p.tables e below (T47.setTop (mkF m 11 #[.val (.ref xq), .val (.ref rr)] [])) _
    refine XS.aloadN X47.here hx rfl (hb hby dp_11) rfl rfl ?_
    show Steps p.tables e below (T47.setTop (mkF m 12 #[.val (.ref xq), .val (.ref rr)] [(.ref xq)])) _
    exact k
  obtain ⟨T50, X50, e50, st50⟩ := getF X47 hx hZ hown (host := "") (Or.inl (hw _ (List.mem_of_getElem? (i := 11) rfl))) Via.refl eh47 FH (g := (mkF m 12 #[.val (.ref xq), .val (.ref rr)] [(.ref xq)])) rfl rfl (hb hby dp_12)
  have A51 : ∀ t, Steps p.tables e below (T50.setTop (mkF m 17 #[.val (.ref xq), .val (.ref rr)] [(.ref xq), (.ref xq), (.ref xh)])) t → Steps p.tables e below (s₁.setTop (entryFrame m #[(.ref xq)] 2)) t := by
    intro t k
    refine A49 _ ?_
    refine st50 _ ?_
    show Steps p.tables e below (T50.setTop (mkF m 15 #[.val (.ref xq), .val (.ref rr)] [(.ref xh)])) _
    refine XS.aloadN X50.here hx rfl (hb hby dp_15) rfl rfl ?_
    show Steps p.tables e below (T50.setTop (mkF m 16 #[.val (.ref xq), .val (.ref rr)] [(.ref xq), (.ref xh)])) _
    refine XS.dup X50.here hx rfl (hb hby dp_16) rfl rfl ?_
    show Steps p.tables e below (T50.setTop (mkF m 17 #[.val (.ref xq), .val (.ref rr)] [(.ref xq), (.ref xq), (.ref xh)])) _
    exact k
  obtain ⟨T52, X52, e52, st52⟩ := getF X50 hx hZ hown (host := "") (Or.inl (hw _ (List.mem_of_getElem? (i := 20) rfl))) Via.refl e50 FA (g := (mkF m 17 #[.val (.ref xq), .val (.ref rr)] [(.ref xq), (.ref xq), (.ref xh)])) rfl rfl (hb hby dp_17)
  have A53 : ∀ t, Steps p.tables e below (T52.setTop (mkF m 23 #[.val (.ref xq), .val (.ref rr)] [(.int ((Nat.toInt32 lo) + (1 : Int32))), (.ref xq), (.int (Nat.toInt32 lo)), (.ref xh)])) t → Steps p.tables e below (s₁.setTop (entryFrame m #[(.ref xq)] 2)) t := by
    intro t k
    refine A51 _ ?_
    refine st52 _ ?_
    show Steps p.tables e below (T52.setTop (mkF m 20 #[.val (.ref xq), .val (.ref rr)] [(.int (Nat.toInt32 lo)), (.ref xq), (.ref xh)])) _
    refine XS.dupX1 X52.here hx rfl (hb hby dp_20) rfl rfl rfl ?_
    show Steps p.tables e below (T52.setTop (mkF m 21 #[.val (.ref xq), .val (.ref rr)] [(.int (Nat.toInt32 lo)), (.ref xq), (.int (Nat.toInt32 lo)), (.ref xh)])) _
    refine XS.iconst X52.here hx rfl (hb hby dp_21) ?_
    show Steps p.tables e below (T52.setTop (mkF m 22 #[.val (.ref xq), .val (.ref rr)] [(.int (1 : Int32)), (.int (Nat.toInt32 lo)), (.ref xq), (.int (Nat.toInt32 lo)), (.ref xh)])) _
    refine XS.iadd X52.here hx rfl (hb hby dp_22) rfl ?_
    show Steps p.tables e below (T52.setTop (mkF m 23 #[.val (.ref xq), .val (.ref rr)] [(.int ((Nat.toInt32 lo) + (1 : Int32))), (.ref xq), (.int (Nat.toInt32 lo)), (.ref xh)])) _
    exact k
  have hw54 : ((Nat.toInt32 lo) + (1 : Int32)) = (Nat.toInt32 (lo + 1)) := own_s1 (by omega)
  rw [hw54] at A53
  obtain ⟨T55, h55, X55, e55, W55, st55⟩ := putF X52 hx hZ hown (host := "") (Or.inl (hw _ (List.mem_of_getElem? (i := 20) rfl))) Via.refl e52 FA E0 (Or.inl (hw _ (List.mem_of_getElem? (i := 21) rfl))) (hw _ (List.mem_of_getElem? (i := 1) rfl)) (ty := .int) (by decide) rfl rfl (g := (mkF m 23 #[.val (.ref xq), .val (.ref rr)] [(.int (Nat.toInt32 (lo + 1))), (.ref xq), (.int (Nat.toInt32 lo)), (.ref xh)])) rfl rfl (hb hby dp_23)
  have Ex56 := E0.wr W55
  have Fl57 := FH.other W55 (Or.inr (slot_ne (Or.inl (hw _ (List.mem_of_getElem? (i := 12) rfl))) (Or.inl (hw _ (List.mem_of_getElem? (i := 21) rfl))) (by decide) (t := (.array (.object "java/lang/Object"))) (t' := .int) (by decide) (by decide)))
  have Fl58 := FA.same W55
  have Fl59 := FT.other W55 (Or.inr (slot_ne (Or.inl (hw _ (List.mem_of_getElem? (i := 14) rfl))) (Or.inl (hw _ (List.mem_of_getElem? (i := 21) rfl))) (by decide) (t := (.array (.object "java/lang/Object"))) (t' := .int) (by decide) (by decide)))
  have Fl60 := FB.other W55 (Or.inr (slot_ne (Or.inl (hw _ (List.mem_of_getElem? (i := 23) rfl))) (Or.inl (hw _ (List.mem_of_getElem? (i := 21) rfl))) (by decide) (t := .int) (t' := .int) (by decide) (by decide)))
  have Ar61 := KH.other W55 KH.2.2.2.2.1
  have Zs62 := Nat.le_trans Z0 (Keep.of_wr W55).1
  have Nf63 := Fr.snoc X55 Nf48 gq
  have Ol64 := O0.wr W55 gq
  have Kp65 := (Keep.refl h0 [xh, xq]).wr W55 (Or.inl (List.mem_of_getElem? (i := 1) rfl))
  have A66 : ∀ t, Steps p.tables e below (T55.setTop (mkF m 27 #[.val (.ref xq), .val (.ref rr)] [.null, (.int (Nat.toInt32 lo)), (.ref xh)])) t → Steps p.tables e below (s₁.setTop (entryFrame m #[(.ref xq)] 2)) t := by
    intro t k
    refine A53 _ ?_
    refine st55 _ ?_
    show Steps p.tables e below (T55.setTop (mkF m 26 #[.val (.ref xq), .val (.ref rr)] [(.int (Nat.toInt32 lo)), (.ref xh)])) _
    refine XS.aconstNull X55.here hx rfl (hb hby dp_26) ?_
    show Steps p.tables e below (T55.setTop (mkF m 27 #[.val (.ref xq), .val (.ref rr)] [.null, (.int (Nat.toInt32 lo)), (.ref xh)])) _
    exact k
  obtain ⟨T67, h67, X67, e67, W67, st67⟩ := stR X55 hx hZ e55 Ar61.1 (j := (Nat.toInt32 lo)) hin rfl (Or.inl rfl) (g := (mkF m 27 #[.val (.ref xq), .val (.ref rr)] [.null, (.int (Nat.toInt32 lo)), (.ref xh)])) rfl rfl (hb hby dp_27)
  rw [own_tn hl31] at W67
  have Ex68 := Ex56.wr W67
  have Fl69 := Fl57.other W67 (Or.inl (Ne.symm KH.2.2.2.2.1))
  have Fl70 := Fl58.other W67 (Or.inl (Ne.symm KH.2.2.2.2.1))
  have Fl71 := Fl59.other W67 (Or.inl (Ne.symm KH.2.2.2.2.1))
  have Fl72 := Fl60.other W67 (Or.inl (Ne.symm KH.2.2.2.2.1))
  have Ar73 := Ar61.set W67
  have Zs74 := Nat.le_trans Zs62 (Keep.of_wr W67).1
  have Nf75 := Fr.snoc X67 Nf63 KH.2.2.2.2.2.1
  have Ol76 := Ol64.wr W67 KH.2.2.2.2.2.1
  have Kp77 := Kp65.wr W67 (Or.inl (List.mem_of_getElem? (i := 0) rfl))
  have KA := Kp77
  have NA := Ar73
  have A78 : ∀ t, Steps p.tables e below (T67.setTop (mkF m 29 #[.val (.ref xq), .val (.ref rr)] [(.ref xq)])) t → Steps p.tables e below (s₁.setTop (entryFrame m #[(.ref xq)] 2)) t := by
    intro t k
    refine A66 _ ?_
    refine st67 _ ?_
    show Steps p.tables e below (T67.setTop (mkF m 28 #[.val (.ref xq), .val (.ref rr)] [])) _
    refine XS.aloadN X67.here hx rfl (hb hby dp_28) rfl rfl ?_
    show Steps p.tables e below (T67.setTop (mkF m 29 #[.val (.ref xq), .val (.ref rr)] [(.ref xq)])) _
    exact k
  obtain ⟨cq79, kq79, q79a, q79b, q79c⟩ := isOf hZ e67 Ex68
  obtain ⟨_, _, ⟨T79, L79, k79, n79⟩, -, X79, ⟨Lc79, hQ79, l79, y79, z79⟩, st79⟩ := X67.virtualBack hx (y := (⟨"com/example/fly_agaric/flyagaric/ChunkedQueue", "isEmpty", "()Z"⟩ : MethodName)) (z := (⟨"com/example/fly_agaric/flyagaric/ChunkedQueue", "isEmpty", "()Z"⟩ : MethodName)) hown (mvT hZ (hw _ (List.mem_of_getElem? (i := 38) rfl))) (mvT hZ (hw _ (List.mem_of_getElem? (i := 16) rfl))) (notFace_of_selects (args := #[]) (mvT hZ (hw _ (List.mem_of_getElem? (i := 18) rfl)))) (mvT hZ (hw _ (List.mem_of_getElem? (i := 18) rfl))) (mvT hZ (hw _ (List.mem_of_getElem? (i := 17) rfl))) (by decide) (backOf (W := 0) (own_isE l Z a0 hw [] xq xh xt (Nat.toInt32 (lo + 1)) (Nat.toInt32 ta) h67 n0 Zs74 Fl69 Fl70 Fl71 Fl72) hZ (hw _ (List.mem_of_getElem? (i := 19) rfl)) (hw _ (List.mem_of_getElem? (i := 2) rfl)) (by decide) (by decide)) q79a q79c (g := (mkF m 29 #[.val (.ref xq), .val (.ref rr)] [(.ref xq)])) rfl (by rw [hml]; rfl) (Steps.refl _) (argsL := []) (rest := []) (lenOf own_pd0 rfl) rfl (by show 2 * 0 + _ ≤ _; exact Nat.le_of_eq rfl) (hb hby dp_29) (fun _ _ => ⟨rfl, e67, (by decide : 0 + 0 ≤ _), (by decide : 0 + 0 ≤ _)⟩)
  dsimp only [Pt.U, Pt.locs, Pt.cells, Pt.slots] at X79 l79 y79 z79 st79 hQ79
  subst l79 y79 z79
  obtain ⟨rfl, Nq79, eh79⟩ := hQ79
  have Nf80 := Fr.app Nf75 Nq79
  have A81 : ∀ t, Steps p.tables e below (T79.setTop (mkF m 32 #[.val (.ref xq), .val (.ref rr)] [(.int (if xh = xt then (if (Nat.toInt32 (lo + 1)) = (Nat.toInt32 ta) then (1 : Int32) else 0) else 0))])) t → Steps p.tables e below (s₁.setTop (entryFrame m #[(.ref xq)] 2)) t := by
    intro t k
    refine A78 _ ?_
    refine st79.trans ?_
    show Steps p.tables e below (T79.setTop (mkF m 32 #[.val (.ref xq), .val (.ref rr)] [(.int (if xh = xt then (if (Nat.toInt32 (lo + 1)) = (Nat.toInt32 ta) then (1 : Int32) else 0) else 0))])) _
    exact k
  by_cases hE : (if xh = xt then (if (Nat.toInt32 (lo + 1)) = (Nat.toInt32 ta) then (1 : Int32) else 0) else 0) = (0 : Int32)
  · have A82 : ∀ t, Steps p.tables e below (T79.setTop (mkF m 48 #[.val (.ref xq), .val (.ref rr)] [])) t → Steps p.tables e below (s₁.setTop (entryFrame m #[(.ref xq)] 2)) t := by
      intro t k
      refine A81 _ ?_
      refine XS.ifYes X79.here hx rfl (pc0 := 32) (pc' := 48) rfl (hb hby dp_32) rfl ((if0 _ _).trans (teq hE).1) (by decide) (by decide) ?_
      show Steps p.tables e below (T79.setTop (mkF m 48 #[.val (.ref xq), .val (.ref rr)] [])) _
      exact k
    have hge : ¬ (xh = xt ∧ lo + 1 = ta) := by
      intro e
      rw [if_pos e.1, if_pos ((own_inj (a := lo + 1) (b := ta) (by omega) (by omega)).mpr e.2)] at hE
      exact absurd hE (by decide)
    have A83 : ∀ t, Steps p.tables e below (T79.setTop (mkF m 49 #[.val (.ref xq), .val (.ref rr)] [(.ref xq)])) t → Steps p.tables e below (s₁.setTop (entryFrame m #[(.ref xq)] 2)) t := by
      intro t k
      refine A82 _ ?_
      refine XS.aloadN X79.here hx rfl (hb hby dp_48) rfl rfl ?_
      show Steps p.tables e below (T79.setTop (mkF m 49 #[.val (.ref xq), .val (.ref rr)] [(.ref xq)])) _
      exact k
    obtain ⟨T84, X84, e84, st84⟩ := getF X79 hx hZ hown (host := "") (Or.inl (hw _ (List.mem_of_getElem? (i := 20) rfl))) Via.refl eh79 Fl70 (g := (mkF m 49 #[.val (.ref xq), .val (.ref rr)] [(.ref xq)])) rfl rfl (hb hby dp_49)
    have A85 : ∀ t, Steps p.tables e below (T84.setTop (mkF m 53 #[.val (.ref xq), .val (.ref rr)] [(.ref xq), (.int (Nat.toInt32 (lo + 1)))])) t → Steps p.tables e below (s₁.setTop (entryFrame m #[(.ref xq)] 2)) t := by
      intro t k
      refine A83 _ ?_
      refine st84 _ ?_
      show Steps p.tables e below (T84.setTop (mkF m 52 #[.val (.ref xq), .val (.ref rr)] [(.int (Nat.toInt32 (lo + 1)))])) _
      refine XS.aloadN X84.here hx rfl (hb hby dp_52) rfl rfl ?_
      show Steps p.tables e below (T84.setTop (mkF m 53 #[.val (.ref xq), .val (.ref rr)] [(.ref xq), (.int (Nat.toInt32 (lo + 1)))])) _
      exact k
    obtain ⟨T86, X86, e86, st86⟩ := getF X84 hx hZ hown (host := "") (Or.inl (hw _ (List.mem_of_getElem? (i := 11) rfl))) Via.refl e84 Fl69 (g := (mkF m 53 #[.val (.ref xq), .val (.ref rr)] [(.ref xq), (.int (Nat.toInt32 (lo + 1)))])) rfl rfl (hb hby dp_53)
    have A87 : ∀ t, Steps p.tables e below (T86.setTop (mkF m 59 #[.val (.ref xq), .val (.ref rr)] [(.int ((Nat.toInt32 sz) - (1 : Int32))), (.int (Nat.toInt32 (lo + 1)))])) t → Steps p.tables e below (s₁.setTop (entryFrame m #[(.ref xq)] 2)) t := by
      intro t k
      refine A85 _ ?_
      refine st86 _ ?_
      show Steps p.tables e below (T86.setTop (mkF m 56 #[.val (.ref xq), .val (.ref rr)] [(.ref xh), (.int (Nat.toInt32 (lo + 1)))])) _
      refine X86.arraylength hx (by rw [e86]; exact Ar73.1.1) (State.isArrayOf_alike hZ.alike Ar73.1.2.1) (g := (mkF m 56 #[.val (.ref xq), .val (.ref rr)] [(.ref xh), (.int (Nat.toInt32 (lo + 1)))])) rfl rfl (hb hby dp_56) _ ?_
      rw [Ar73.2.1]
      show Steps p.tables e below (T86.setTop (mkF m 57 #[.val (.ref xq), .val (.ref rr)] [(.int (Nat.toInt32 sz)), (.int (Nat.toInt32 (lo + 1)))])) _
      refine XS.iconst X86.here hx rfl (hb hby dp_57) ?_
      show Steps p.tables e below (T86.setTop (mkF m 58 #[.val (.ref xq), .val (.ref rr)] [(.int (1 : Int32)), (.int (Nat.toInt32 sz)), (.int (Nat.toInt32 (lo + 1)))])) _
      refine XS.isub X86.here hx rfl (hb hby dp_58) rfl ?_
      show Steps p.tables e below (T86.setTop (mkF m 59 #[.val (.ref xq), .val (.ref rr)] [(.int ((Nat.toInt32 sz) - (1 : Int32))), (.int (Nat.toInt32 (lo + 1)))])) _
      exact k
    have hw88 : ((Nat.toInt32 sz) - (1 : Int32)) = (Nat.toInt32 (sz - 1)) := own_m1 (by omega) (by omega)
    rw [hw88] at A87
    by_cases hB : (Nat.toInt32 (lo + 1)) = (Nat.toInt32 (sz - 1))
    · have A89 : ∀ t, Steps p.tables e below (T86.setTop (mkF m 62 #[.val (.ref xq), .val (.ref rr)] [])) t → Steps p.tables e below (s₁.setTop (entryFrame m #[(.ref xq)] 2)) t := by
        intro t k
        refine A87 _ ?_
        refine XS.icmpNo X86.here hx rfl (hb hby dp_59) rfl (teq hB).2 ?_
        show Steps p.tables e below (T86.setTop (mkF m 62 #[.val (.ref xq), .val (.ref rr)] [])) _
        exact k
      have hls : lo + 1 = sz - 1 := (own_inj (a := lo + 1) (b := sz - 1) (by omega) (by omega)).mp hB
      obtain ⟨b, bs, r2, hr2⟩ : ∃ b bs r2, xr = (b, bs) :: r2 := by
        cases xr with
        | nil =>
          exfalso
          obtain ⟨ex, es, -⟩ := CH
          have h1 : 0 < ta - lo := hp
          have h2 : lo + 1 ≠ ta := fun z => hge ⟨ex, z⟩
          have h3 := SH.2.2.1
          omega
        | cons y r2 => exact ⟨y.1, y.2, r2, rfl⟩
      subst hr2
      have hlk : ch.slots[sz - 1]? = some (.ref b) := by
        obtain ⟨_, _, ⟨c', F', _, l'⟩, _⟩ := CH
        cases KH.1.1.symm.trans F'.1.1
        exact l'
      obtain ⟨cb, KB0⟩ := own_ch_head CH.2.2.2
      have neb : b ≠ xh := Ne.symm (CH.2.1 b (List.mem_cons_self ..))
      have KB := KB0.keep KA (ninS neb (ninS KB0.2.2.2.2.1 nin0))
      have hin2 : ¬ ((Nat.toInt32 (lo + 1)) < 0 ∨ (ch.setSlot lo Value.null).slots.size ≤ (Nat.toInt32 (lo + 1)).toNatClampNeg) := idx_in (n := (ch.setSlot lo Value.null).slots.size) (by rw [NA.2.1]; omega) (by rw [NA.2.1]; omega)
      have hat2 : (ch.setSlot lo Value.null).slots[(Nat.toInt32 (lo + 1)).toNatClampNeg]? = some (.ref b) := by rw [own_tn (by omega), hls, own_miss (by omega)]; exact hlk
      have A90 : ∀ t, Steps p.tables e below (T86.setTop (mkF m 64 #[.val (.ref xq), .val (.ref rr)] [(.ref xq), (.ref xq)])) t → Steps p.tables e below (s₁.setTop (entryFrame m #[(.ref xq)] 2)) t := by
        intro t k
        refine A89 _ ?_
        refine XS.aloadN X86.here hx rfl (hb hby dp_62) rfl rfl ?_
        show Steps p.tables e below (T86.setTop (mkF m 63 #[.val (.ref xq), .val (.ref rr)] [(.ref xq)])) _
        refine XS.aloadN X86.here hx rfl (hb hby dp_63) rfl rfl ?_
        show Steps p.tables e below (T86.setTop (mkF m 64 #[.val (.ref xq), .val (.ref rr)] [(.ref xq), (.ref xq)])) _
        exact k
      obtain ⟨T91, X91, e91, st91⟩ := getF X86 hx hZ hown (host := "") (Or.inl (hw _ (List.mem_of_getElem? (i := 11) rfl))) Via.refl e86 Fl69 (g := (mkF m 64 #[.val (.ref xq), .val (.ref rr)] [(.ref xq), (.ref xq)])) rfl rfl (hb hby dp_64)
      have A92 : ∀ t, Steps p.tables e below (T91.setTop (mkF m 68 #[.val (.ref xq), .val (.ref rr)] [(.ref xq), (.ref xh), (.ref xq)])) t → Steps p.tables e below (s₁.setTop (entryFrame m #[(.ref xq)] 2)) t := by
        intro t k
        refine A90 _ ?_
        refine st91 _ ?_
        show Steps p.tables e below (T91.setTop (mkF m 67 #[.val (.ref xq), .val (.ref rr)] [(.ref xh), (.ref xq)])) _
        refine XS.aloadN X91.here hx rfl (hb hby dp_67) rfl rfl ?_
        show Steps p.tables e below (T91.setTop (mkF m 68 #[.val (.ref xq), .val (.ref rr)] [(.ref xq), (.ref xh), (.ref xq)])) _
        exact k
      obtain ⟨T93, X93, e93, st93⟩ := getF X91 hx hZ hown (host := "") (Or.inl (hw _ (List.mem_of_getElem? (i := 20) rfl))) Via.refl e91 Fl70 (g := (mkF m 68 #[.val (.ref xq), .val (.ref rr)] [(.ref xq), (.ref xh), (.ref xq)])) rfl rfl (hb hby dp_68)
      have A94 : ∀ t, Steps p.tables e below (T93.setTop (mkF m 72 #[.val (.ref xq), .val (.ref rr)] [(.ref b), (.ref xq)])) t → Steps p.tables e below (s₁.setTop (entryFrame m #[(.ref xq)] 2)) t := by
        intro t k
        refine A92 _ ?_
        refine st93 _ ?_
        show Steps p.tables e below (T93.setTop (mkF m 71 #[.val (.ref xq), .val (.ref rr)] [(.int (Nat.toInt32 (lo + 1))), (.ref xh), (.ref xq)])) _
        refine X93.aaload hx (j := (Nat.toInt32 (lo + 1))) (v := (.ref b)) (by rw [e93]; exact Ar73.1.1) (State.isArrayOf_alike hZ.alike Ar73.1.2.1) rfl Ar73.1.2.2 hin2 hat2 (g := (mkF m 71 #[.val (.ref xq), .val (.ref rr)] [(.int (Nat.toInt32 (lo + 1))), (.ref xh), (.ref xq)])) rfl rfl (hb hby dp_71) _ ?_
        show Steps p.tables e below (T93.setTop (mkF m 72 #[.val (.ref xq), .val (.ref rr)] [(.ref b), (.ref xq)])) _
        exact k
      obtain ⟨T95, X95, e95, st95⟩ := castY X93 hx hZ hown (hw _ (List.mem_of_getElem? (i := 57) rfl)) e93 (Ins.self KB.2.2.2.1) (g := (mkF m 72 #[.val (.ref xq), .val (.ref rr)] [(.ref b), (.ref xq)])) rfl rfl (hb hby dp_72)
      have A96 : ∀ t, Steps p.tables e below (T95.setTop (mkF m 75 #[.val (.ref xq), .val (.ref rr)] [(.ref b), (.ref xq)])) t → Steps p.tables e below (s₁.setTop (entryFrame m #[(.ref xq)] 2)) t := by
        intro t k
        refine A94 _ ?_
        refine st95 _ ?_
        show Steps p.tables e below (T95.setTop (mkF m 75 #[.val (.ref xq), .val (.ref rr)] [(.ref b), (.ref xq)])) _
        exact k
      obtain ⟨T97, h97, X97, e97, W97, st97⟩ := putF X95 hx hZ hown (host := "") (Or.inl (hw _ (List.mem_of_getElem? (i := 11) rfl))) Via.refl e95 Fl69 Ex68 (Or.inl (hw _ (List.mem_of_getElem? (i := 12) rfl))) (hw _ (List.mem_of_getElem? (i := 1) rfl)) (ty := (.array (.object "java/lang/Object"))) (by decide) rfl rfl (g := (mkF m 75 #[.val (.ref xq), .val (.ref rr)] [(.ref b), (.ref xq)])) rfl rfl (hb hby dp_75)
      have Ex98 := Ex68.wr W97
      have Fl99 := Fl69.same W97
      have Fl100 := Fl70.other W97 (Or.inr (slot_ne (Or.inl (hw _ (List.mem_of_getElem? (i := 21) rfl))) (Or.inl (hw _ (List.mem_of_getElem? (i := 12) rfl))) (by decide) (t := .int) (t' := (.array (.object "java/lang/Object"))) (by decide) (by decide)))
      have Fl101 := Fl71.other W97 (Or.inr (slot_ne (Or.inl (hw _ (List.mem_of_getElem? (i := 14) rfl))) (Or.inl (hw _ (List.mem_of_getElem? (i := 12) rfl))) (by decide) (t := (.array (.object "java/lang/Object"))) (t' := (.array (.object "java/lang/Object"))) (by decide) (by decide)))
      have Fl102 := Fl72.other W97 (Or.inr (slot_ne (Or.inl (hw _ (List.mem_of_getElem? (i := 23) rfl))) (Or.inl (hw _ (List.mem_of_getElem? (i := 12) rfl))) (by decide) (t := .int) (t' := (.array (.object "java/lang/Object"))) (by decide) (by decide)))
      have Ar103 := Ar73.other W97 KH.2.2.2.2.1
      have Zs104 := Nat.le_trans Zs74 (Keep.of_wr W97).1
      have Nf105 := Fr.snoc X97 Nf80 gq
      have Ol106 := Ol76.wr W97 gq
      have Kp107 := Kp77.wr W97 (Or.inl (List.mem_of_getElem? (i := 1) rfl))
      have A108 : ∀ t, Steps p.tables e below (T97.setTop (mkF m 80 #[.val (.ref xq), .val (.ref rr)] [(.int (0 : Int32)), (.ref xq)])) t → Steps p.tables e below (s₁.setTop (entryFrame m #[(.ref xq)] 2)) t := by
        intro t k
        refine A96 _ ?_
        refine st97 _ ?_
        show Steps p.tables e below (T97.setTop (mkF m 78 #[.val (.ref xq), .val (.ref rr)] [])) _
        refine XS.aloadN X97.here hx rfl (hb hby dp_78) rfl rfl ?_
        show Steps p.tables e below (T97.setTop (mkF m 79 #[.val (.ref xq), .val (.ref rr)] [(.ref xq)])) _
        refine XS.iconst X97.here hx rfl (hb hby dp_79) ?_
        show Steps p.tables e below (T97.setTop (mkF m 80 #[.val (.ref xq), .val (.ref rr)] [(.int (0 : Int32)), (.ref xq)])) _
        exact k
      obtain ⟨T109, h109, X109, e109, W109, st109⟩ := putF X97 hx hZ hown (host := "") (Or.inl (hw _ (List.mem_of_getElem? (i := 20) rfl))) Via.refl e97 Fl100 Ex98 (Or.inl (hw _ (List.mem_of_getElem? (i := 21) rfl))) (hw _ (List.mem_of_getElem? (i := 1) rfl)) (ty := .int) (by decide) rfl rfl (g := (mkF m 80 #[.val (.ref xq), .val (.ref rr)] [(.int (0 : Int32)), (.ref xq)])) rfl rfl (hb hby dp_80)
      have Ex110 := Ex98.wr W109
      have Fl111 := Fl99.other W109 (Or.inr (slot_ne (Or.inl (hw _ (List.mem_of_getElem? (i := 12) rfl))) (Or.inl (hw _ (List.mem_of_getElem? (i := 21) rfl))) (by decide) (t := (.array (.object "java/lang/Object"))) (t' := .int) (by decide) (by decide)))
      have Fl112 := Fl100.same W109
      have Fl113 := Fl101.other W109 (Or.inr (slot_ne (Or.inl (hw _ (List.mem_of_getElem? (i := 14) rfl))) (Or.inl (hw _ (List.mem_of_getElem? (i := 21) rfl))) (by decide) (t := (.array (.object "java/lang/Object"))) (t' := .int) (by decide) (by decide)))
      have Fl114 := Fl102.other W109 (Or.inr (slot_ne (Or.inl (hw _ (List.mem_of_getElem? (i := 23) rfl))) (Or.inl (hw _ (List.mem_of_getElem? (i := 21) rfl))) (by decide) (t := .int) (t' := .int) (by decide) (by decide)))
      have Ar115 := Ar103.other W109 KH.2.2.2.2.1
      have Zs116 := Nat.le_trans Zs104 (Keep.of_wr W109).1
      have Nf117 := Fr.snoc X109 Nf105 gq
      have Ol118 := Ol106.wr W109 gq
      have Kp119 := Kp107.wr W109 (Or.inl (List.mem_of_getElem? (i := 1) rfl))
      have A120 : ∀ t, Steps p.tables e below (T109.setTop (mkF m 84 #[.val (.ref xq), .val (.ref rr)] [(.ref rr)])) t → Steps p.tables e below (s₁.setTop (entryFrame m #[(.ref xq)] 2)) t := by
        intro t k
        refine A108 _ ?_
        refine st109 _ ?_
        show Steps p.tables e below (T109.setTop (mkF m 83 #[.val (.ref xq), .val (.ref rr)] [])) _
        refine XS.aloadN X109.here hx rfl (hb hby dp_83) rfl rfl ?_
        show Steps p.tables e below (T109.setTop (mkF m 84 #[.val (.ref xq), .val (.ref rr)] [(.ref rr)])) _
        exact k
      have CH2 := own_next CH Kp119
      have hc2 : own_cnt ta ((b, bs) :: r2) lo sz - 1 = own_cnt ta r2 0 bs := by
        show (sz - 1 - lo) + own_cnt ta r2 0 bs - 1 = _
        omega
      have S2 : own_Sh r2 0 ts ta k := ⟨fun _ => ⟨Nat.zero_le _, fun z => z.symm⟩, fun _ => SH.2.1 (by simp), SH.2.2⟩
      obtain ⟨fs, hr, hrun, hended, hW, hsame⟩ := X109.leave (v := some (.ref rr)) (fun h => by rw [Bd.returns] at h; cases h)
      refine ⟨_, _, A120 _ ?_, hrun, hended, _, _, rfl, ?_, ⟨_, rfl⟩, hW, hsame.mono (by decide) (by decide)⟩
      · exact retOut X109 hx Bd.returns rfl (Or.inr (Or.inr (Or.inr (Or.inr ⟨rfl, rfl, rfl⟩)))) (hb hby dp_84) hr
      · show own_poS_Q Z xq k (own_cnt ta ((b, bs) :: r2) lo sz) h0 n0 _ T109.heap _
        rw [e109]
        exact ⟨rr, rfl, Nf117, Zs116, ER, Ol118, r2, 0, b, bs, xt, ts, ta, ⟨Ex110, Fl111, Fl112, Fl113, Fl114, CH2, S2, by omega⟩, hc2⟩
    · have A121 : ∀ t, Steps p.tables e below (T86.setTop (mkF m 83 #[.val (.ref xq), .val (.ref rr)] [])) t → Steps p.tables e below (s₁.setTop (entryFrame m #[(.ref xq)] 2)) t := by
        intro t k
        refine A87 _ ?_
        refine XS.icmpYes X86.here hx rfl (pc0 := 59) (pc' := 83) rfl (hb hby dp_59) rfl (feq hB).2 (by decide) (by decide) ?_
        show Steps p.tables e below (T86.setTop (mkF m 83 #[.val (.ref xq), .val (.ref rr)] [])) _
        exact k
      have A122 : ∀ t, Steps p.tables e below (T86.setTop (mkF m 84 #[.val (.ref xq), .val (.ref rr)] [(.ref rr)])) t → Steps p.tables e below (s₁.setTop (entryFrame m #[(.ref xq)] 2)) t := by
        intro t k
        refine A121 _ ?_
        refine XS.aloadN X86.here hx rfl (hb hby dp_83) rfl rfl ?_
        show Steps p.tables e below (T86.setTop (mkF m 84 #[.val (.ref xq), .val (.ref rr)] [(.ref rr)])) _
        exact k
      have hls : lo + 1 ≠ sz - 1 := fun y => hB ((own_inj (a := lo + 1) (b := sz - 1) (by omega) (by omega)).mpr y)
      have CH2 := own_pop CH Kp77 KH.1.1 Ar73 (fun _ => by omega)
      have hc2 := own_cnt_pop CH
      have S2 : own_Sh xr (lo + 1) ts ta k := ⟨fun y => by
        subst y
        obtain ⟨ex, es, -⟩ := CH
        have h1 : 0 < ta - lo := hp
        have h2 : lo + 1 ≠ ta := fun z => hge ⟨ex, z⟩
        exact ⟨by omega, fun z => absurd z h2⟩, SH.2⟩
      obtain ⟨fs, hr, hrun, hended, hW, hsame⟩ := X86.leave (v := some (.ref rr)) (fun h => by rw [Bd.returns] at h; cases h)
      refine ⟨_, _, A122 _ ?_, hrun, hended, _, _, rfl, ?_, ⟨_, rfl⟩, hW, hsame.mono (by decide) (by decide)⟩
      · exact retOut X86 hx Bd.returns rfl (Or.inr (Or.inr (Or.inr (Or.inr ⟨rfl, rfl, rfl⟩)))) (hb hby dp_84) hr
      · show own_poS_Q Z xq k (own_cnt ta xr lo sz) h0 n0 _ T86.heap _
        rw [e86]
        exact ⟨rr, rfl, Nf80, Zs74, ER, Ol76, xr, lo + 1, xh, sz, xt, ts, ta, ⟨Ex68, Fl69, Fl70, Fl71, Fl72, CH2, S2, by omega⟩, hc2.symm⟩
  · have A123 : ∀ t, Steps p.tables e below (T79.setTop (mkF m 35 #[.val (.ref xq), .val (.ref rr)] [])) t → Steps p.tables e below (s₁.setTop (entryFrame m #[(.ref xq)] 2)) t := by
      intro t k
      refine A81 _ ?_
      refine XS.ifNo X79.here hx rfl (hb hby dp_32) rfl ((if0 _ _).trans (feq hE).1) ?_
      show Steps p.tables e below (T79.setTop (mkF m 35 #[.val (.ref xq), .val (.ref rr)] [])) _
      exact k
    have hem : xh = xt ∧ lo + 1 = ta := by
      by_cases e1 : xh = xt
      · by_cases e2 : lo + 1 = ta
        · exact ⟨e1, e2⟩
        · exfalso; apply hE; rw [if_pos e1, if_neg (fun y => e2 ((own_inj (a := lo + 1) (b := ta) (by omega) (by omega)).mp y))]
      · exfalso; apply hE; rw [if_neg e1]
    have hr0 : xr = [] := by
      cases xr with
      | nil => rfl
      | cons y r => exact absurd hem.1 (own_ch_ne CH)
    subst hr0
    obtain ⟨ex, es, -⟩ := CH
    have A124 : ∀ t, Steps p.tables e below (T79.setTop (mkF m 37 #[.val (.ref xq), .val (.ref rr)] [(.int (0 : Int32)), (.ref xq)])) t → Steps p.tables e below (s₁.setTop (entryFrame m #[(.ref xq)] 2)) t := by
      intro t k
      refine A123 _ ?_
      refine XS.aloadN X79.here hx rfl (hb hby dp_35) rfl rfl ?_
      show Steps p.tables e below (T79.setTop (mkF m 36 #[.val (.ref xq), .val (.ref rr)] [(.ref xq)])) _
      refine XS.iconst X79.here hx rfl (hb hby dp_36) ?_
      show Steps p.tables e below (T79.setTop (mkF m 37 #[.val (.ref xq), .val (.ref rr)] [(.int (0 : Int32)), (.ref xq)])) _
      exact k
    obtain ⟨T125, h125, X125, e125, W125, st125⟩ := putF X79 hx hZ hown (host := "") (Or.inl (hw _ (List.mem_of_getElem? (i := 20) rfl))) Via.refl eh79 Fl70 Ex68 (Or.inl (hw _ (List.mem_of_getElem? (i := 21) rfl))) (hw _ (List.mem_of_getElem? (i := 1) rfl)) (ty := .int) (by decide) rfl rfl (g := (mkF m 37 #[.val (.ref xq), .val (.ref rr)] [(.int (0 : Int32)), (.ref xq)])) rfl rfl (hb hby dp_37)
    have Ex126 := Ex68.wr W125
    have Fl127 := Fl69.other W125 (Or.inr (slot_ne (Or.inl (hw _ (List.mem_of_getElem? (i := 12) rfl))) (Or.inl (hw _ (List.mem_of_getElem? (i := 21) rfl))) (by decide) (t := (.array (.object "java/lang/Object"))) (t' := .int) (by decide) (by decide)))
    have Fl128 := Fl70.same W125
    have Fl129 := Fl71.other W125 (Or.inr (slot_ne (Or.inl (hw _ (List.mem_of_getElem? (i := 14) rfl))) (Or.inl (hw _ (List.mem_of_getElem? (i := 21) rfl))) (by decide) (t := (.array (.object "java/lang/Object"))) (t' := .int) (by decide) (by decide)))
    have Fl130 := Fl72.other W125 (Or.inr (slot_ne (Or.inl (hw _ (List.mem_of_getElem? (i := 23) rfl))) (Or.inl (hw _ (List.mem_of_getElem? (i := 21) rfl))) (by decide) (t := .int) (t' := .int) (by decide) (by decide)))
    have Ar131 := Ar73.other W125 KH.2.2.2.2.1
    have Zs132 := Nat.le_trans Zs74 (Keep.of_wr W125).1
    have Nf133 := Fr.snoc X125 Nf80 gq
    have Ol134 := Ol76.wr W125 gq
    have Kp135 := Kp77.wr W125 (Or.inl (List.mem_of_getElem? (i := 1) rfl))
    have A136 : ∀ t, Steps p.tables e below (T125.setTop (mkF m 42 #[.val (.ref xq), .val (.ref rr)] [(.int (0 : Int32)), (.ref xq)])) t → Steps p.tables e below (s₁.setTop (entryFrame m #[(.ref xq)] 2)) t := by
      intro t k
      refine A124 _ ?_
      refine st125 _ ?_
      show Steps p.tables e below (T125.setTop (mkF m 40 #[.val (.ref xq), .val (.ref rr)] [])) _
      refine XS.aloadN X125.here hx rfl (hb hby dp_40) rfl rfl ?_
      show Steps p.tables e below (T125.setTop (mkF m 41 #[.val (.ref xq), .val (.ref rr)] [(.ref xq)])) _
      refine XS.iconst X125.here hx rfl (hb hby dp_41) ?_
      show Steps p.tables e below (T125.setTop (mkF m 42 #[.val (.ref xq), .val (.ref rr)] [(.int (0 : Int32)), (.ref xq)])) _
      exact k
    obtain ⟨T137, h137, X137, e137, W137, st137⟩ := putF X125 hx hZ hown (host := "") (Or.inl (hw _ (List.mem_of_getElem? (i := 22) rfl))) Via.refl e125 Fl130 Ex126 (Or.inl (hw _ (List.mem_of_getElem? (i := 23) rfl))) (hw _ (List.mem_of_getElem? (i := 1) rfl)) (ty := .int) (by decide) rfl rfl (g := (mkF m 42 #[.val (.ref xq), .val (.ref rr)] [(.int (0 : Int32)), (.ref xq)])) rfl rfl (hb hby dp_42)
    have Ex138 := Ex126.wr W137
    have Fl139 := Fl127.other W137 (Or.inr (slot_ne (Or.inl (hw _ (List.mem_of_getElem? (i := 12) rfl))) (Or.inl (hw _ (List.mem_of_getElem? (i := 23) rfl))) (by decide) (t := (.array (.object "java/lang/Object"))) (t' := .int) (by decide) (by decide)))
    have Fl140 := Fl128.other W137 (Or.inr (slot_ne (Or.inl (hw _ (List.mem_of_getElem? (i := 21) rfl))) (Or.inl (hw _ (List.mem_of_getElem? (i := 23) rfl))) (by decide) (t := .int) (t' := .int) (by decide) (by decide)))
    have Fl141 := Fl129.other W137 (Or.inr (slot_ne (Or.inl (hw _ (List.mem_of_getElem? (i := 14) rfl))) (Or.inl (hw _ (List.mem_of_getElem? (i := 23) rfl))) (by decide) (t := (.array (.object "java/lang/Object"))) (t' := .int) (by decide) (by decide)))
    have Fl142 := Fl130.same W137
    have Ar143 := Ar131.other W137 KH.2.2.2.2.1
    have Zs144 := Nat.le_trans Zs132 (Keep.of_wr W137).1
    have Nf145 := Fr.snoc X137 Nf133 gq
    have Ol146 := Ol134.wr W137 gq
    have Kp147 := Kp135.wr W137 (Or.inl (List.mem_of_getElem? (i := 1) rfl))
    have A148 : ∀ t, Steps p.tables e below (T137.setTop (mkF m 84 #[.val (.ref xq), .val (.ref rr)] [(.ref rr)])) t → Steps p.tables e below (s₁.setTop (entryFrame m #[(.ref xq)] 2)) t := by
      intro t k
      refine A136 _ ?_
      refine st137 _ ?_
      show Steps p.tables e below (T137.setTop (mkF m 45 #[.val (.ref xq), .val (.ref rr)] [])) _
      refine XS.goto X137.here hx rfl (pc0 := 45) (pc' := 83) rfl (hb hby dp_45) (by decide) (by decide) ?_
      show Steps p.tables e below (T137.setTop (mkF m 83 #[.val (.ref xq), .val (.ref rr)] [])) _
      refine XS.aloadN X137.here hx rfl (hb hby dp_83) rfl rfl ?_
      show Steps p.tables e below (T137.setTop (mkF m 84 #[.val (.ref xq), .val (.ref rr)] [(.ref rr)])) _
      exact k
    have hn1 : own_cnt ta ([] : List (Addr × Nat)) lo sz - 1 = 0 := by show ta - lo - 1 = 0; omega
    subst ex es
    obtain ⟨fs, hr, hrun, hended, hW, hsame⟩ := X137.leave (v := some (.ref rr)) (fun h => by rw [Bd.returns] at h; cases h)
    refine ⟨_, _, A148 _ ?_, hrun, hended, _, _, rfl, ?_, ⟨_, rfl⟩, hW, hsame.mono (by decide) (by decide)⟩
    · exact retOut X137 hx Bd.returns rfl (Or.inr (Or.inr (Or.inr (Or.inr ⟨rfl, rfl, rfl⟩)))) (hb hby dp_84) hr
    · show own_poS_Q Z xq k (own_cnt ta [] lo sz) h0 n0 _ T137.heap _
      rw [e137]
      exact ⟨rr, rfl, Nf145, Zs144, ER, Ol146, [], 0, xh, sz, xh, sz, 0, ⟨Ex138, Fl139, Fl140, Fl141, Fl142, ⟨rfl, rfl, _, Ar143, fun i h1 h2 => absurd h2 (Nat.not_lt_zero _)⟩, ⟨fun _ => ⟨Nat.le_refl _, fun _ => rfl⟩, fun y => absurd rfl y, Nat.zero_le _, by have := SH.2.2.2; omega⟩, Nat.zero_le _⟩, hn1⟩
def own_add_Q (Z : State) (xq : Addr) (k n : Nat) (h0 : Heap) (n0 : Nat) (v : Option Value) (h : Heap) (L : List Loc) : Prop := v = none ∧ Fr n0 L ∧ n0 ≤ h.size ∧ Old Z n0 h ∧ own_QI Z h xq n0 (k + 1) (n + 1)
theorem own_add_ef (m : MethodId) (x0 : Addr) (x1 : Addr) : entryFrame m #[(.ref x0), (.ref x1)] 4 = mkF m 0 #[.val (.ref x0), .val (.ref x1), .unset, .unset] [] := by first | (simp [entryFrame, mkF, argsToLocals, Value.category]; done) | rfl
set_option maxRecDepth 65536 in
set_option maxHeartbeats 40000000 in
theorem own_add (l : Launch) (Z : State) (a0 : Array Value) (hw : ∀ d ∈ tables_1, d.before a0 Z = true) (ws : List Jvm.Cond) (xq rr : Addr) (k : Nat) (xr : List (Addr × Nat)) (lo : Nat) (xh : Addr) (sz : Nat) (xt : Addr) (ts ta : Nat) (h0 : Heap) (n0 : Nat) (Z0 : n0 ≤ h0.size) (QC : own_QC Z h0 xq n0 k xr lo xh sz xt ts ta) (hk9 : k ≤ 9) (ER : Exa Z Z.heap rr "java/lang/Integer") (gq : n0 ≤ xq) (O0 : Old Z n0 h0) :
    MetFree l (⟨"com/example/fly_agaric/flyagaric/ChunkedQueue", "add", "(Ljava/lang/Object;)V"⟩ : MethodName) (head1 (Jvm.Cond.code (⟨"com/example/fly_agaric/flyagaric/ChunkedQueue", "add", "(Ljava/lang/Object;)V"⟩ : MethodName) prog_9_method_3_code 4 none :: ws) ({ frames := 1, cells := 1, slots := 8, locals := 13 } : Room)) (fun a U => a = #[(.ref xq), (.ref rr)] ∧ Z.Warmed39 U.vm ∧ U.heap = h0) (fun _ _ _ _ _ => True) (fun _ U o U' => ∃ v L, o = .returned v ∧ own_add_Q Z xq k (own_cnt ta xr lo sz) h0 n0 v U'.heap L ∧ FrameEnd U o U' L ({ frames := 1, cells := 1, slots := 8, locals := 13 } : Room).cells ({ frames := 1, cells := 1, slots := 8, locals := 13 } : Room).slots) := by
  refine MetFree.of_bodySF (plainFor_of_name own_pn1) hisR ?_
  intro p e s m args below meth c s₁ Bd hml0 hP hK
  obtain ⟨rfl, hZ, hh⟩ := hP
  have hx := Bd.exec
  have hby := Bd.bytes
  have hml : c.maxLocals = 4 := hml0
  have hown : s.vm.findClass "com/example/fly_agaric/flyagaric/ChunkedQueue" = some m.cls := findClass_of_methodNamed Bd.named
  have hnm := (name_of_methodNamed Bd.named Bd.method).1
  have X0 : Stand p l e ({ frames := 1, cells := 1, slots := 8, locals := 13 } : Room) s m #[(.ref xq), (.ref rr)] below meth c s₁ [] 0 0 := Stand.of_body Bd
  have e0 : s₁.heap = h0 := by rw [← hh, Bd.state]; rfl
  have N0 := Fr.nil n0
  have A0 : ∀ t, Steps p.tables e below (s₁.setTop (mkF m 0 #[.val (.ref xq), .val (.ref rr), .unset, .unset] [])) t → Steps p.tables e below (s₁.setTop (entryFrame m #[(.ref xq), (.ref rr)] 4)) t := fun t k => castTop (own_add_ef m xq rr) k
  have hbd := own_bnd QC
  obtain ⟨E0, FH, FA, FT, FB, CH, SH, hnk⟩ := QC
  obtain ⟨htm, ct, KT⟩ := own_ch_tail CH
  have hta31 : ta < 2 ^ 31 := by omega
  have A149 : ∀ t, Steps p.tables e below (s₁.setTop (mkF m 1 #[.val (.ref xq), .val (.ref rr), .unset, .unset] [(.ref xq)])) t → Steps p.tables e below (s₁.setTop (entryFrame m #[(.ref xq), (.ref rr)] 4)) t := by
    intro t k
    refine A0 _ ?_
    refine XS.aloadN X0.here hx rfl (hb hby da_0) rfl rfl ?_
    show Steps p.tables e below (s₁.setTop (mkF m 1 #[.val (.ref xq), .val (.ref rr), .unset, .unset] [(.ref xq)])) _
    exact k
  obtain ⟨T150, X150, e150, st150⟩ := getF X0 hx hZ hown (host := "") (Or.inl (hw _ (List.mem_of_getElem? (i := 13) rfl))) Via.refl e0 FT (g := (mkF m 1 #[.val (.ref xq), .val (.ref rr), .unset, .unset] [(.ref xq)])) rfl rfl (hb hby da_1)
  have A151 : ∀ t, Steps p.tables e below (T150.setTop (mkF m 7 #[.val (.ref xq), .val (.ref rr), .unset, .unset] [(.int ((Nat.toInt32 ts) - (1 : Int32)))])) t → Steps p.tables e below (s₁.setTop (entryFrame m #[(.ref xq), (.ref rr)] 4)) t := by
    intro t k
    refine A149 _ ?_
    refine st150 _ ?_
    show Steps p.tables e below (T150.setTop (mkF m 4 #[.val (.ref xq), .val (.ref rr), .unset, .unset] [(.ref xt)])) _
    refine X150.arraylength hx (by rw [e150]; exact KT.1.1) (State.isArrayOf_alike hZ.alike KT.1.2.1) (g := (mkF m 4 #[.val (.ref xq), .val (.ref rr), .unset, .unset] [(.ref xt)])) rfl rfl (hb hby da_4) _ ?_
    rw [KT.2.1]
    show Steps p.tables e below (T150.setTop (mkF m 5 #[.val (.ref xq), .val (.ref rr), .unset, .unset] [(.int (Nat.toInt32 ts))])) _
    refine XS.iconst X150.here hx rfl (hb hby da_5) ?_
    show Steps p.tables e below (T150.setTop (mkF m 6 #[.val (.ref xq), .val (.ref rr), .unset, .unset] [(.int (1 : Int32)), (.int (Nat.toInt32 ts))])) _
    refine XS.isub X150.here hx rfl (hb hby da_6) rfl ?_
    show Steps p.tables e below (T150.setTop (mkF m 7 #[.val (.ref xq), .val (.ref rr), .unset, .unset] [(.int ((Nat.toInt32 ts) - (1 : Int32)))])) _
    exact k
  have hw152 : ((Nat.toInt32 ts) - (1 : Int32)) = (Nat.toInt32 (ts - 1)) := own_m1 (by omega) (by omega)
  rw [hw152] at A151
  have A153 : ∀ t, Steps p.tables e below (T150.setTop (mkF m 9 #[.val (.ref xq), .val (.ref rr), .val (.int (Nat.toInt32 (ts - 1))), .unset] [(.ref xq)])) t → Steps p.tables e below (s₁.setTop (entryFrame m #[(.ref xq), (.ref rr)] 4)) t := by
    intro t k
    refine A151 _ ?_
    refine XS.istoreN X150.here hx rfl (hb hby da_7) rfl (l' := #[.val (.ref xq), .val (.ref rr), .val (.int (Nat.toInt32 (ts - 1))), .unset]) rfl ?_
    show Steps p.tables e below (T150.setTop (mkF m 8 #[.val (.ref xq), .val (.ref rr), .val (.int (Nat.toInt32 (ts - 1))), .unset] [])) _
    refine XS.aloadN X150.here hx rfl (hb hby da_8) rfl rfl ?_
    show Steps p.tables e below (T150.setTop (mkF m 9 #[.val (.ref xq), .val (.ref rr), .val (.int (Nat.toInt32 (ts - 1))), .unset] [(.ref xq)])) _
    exact k
  obtain ⟨T154, X154, e154, st154⟩ := getF X150 hx hZ hown (host := "") (Or.inl (hw _ (List.mem_of_getElem? (i := 22) rfl))) Via.refl e150 FB (g := (mkF m 9 #[.val (.ref xq), .val (.ref rr), .val (.int (Nat.toInt32 (ts - 1))), .unset] [(.ref xq)])) rfl rfl (hb hby da_9)
  have A155 : ∀ t, Steps p.tables e below (T154.setTop (mkF m 13 #[.val (.ref xq), .val (.ref rr), .val (.int (Nat.toInt32 (ts - 1))), .unset] [(.int (Nat.toInt32 (ts - 1))), (.int (Nat.toInt32 ta))])) t → Steps p.tables e below (s₁.setTop (entryFrame m #[(.ref xq), (.ref rr)] 4)) t := by
    intro t k
    refine A153 _ ?_
    refine st154 _ ?_
    show Steps p.tables e below (T154.setTop (mkF m 12 #[.val (.ref xq), .val (.ref rr), .val (.int (Nat.toInt32 (ts - 1))), .unset] [(.int (Nat.toInt32 ta))])) _
    refine XS.iloadN X154.here hx rfl (hb hby da_12) rfl ?_
    show Steps p.tables e below (T154.setTop (mkF m 13 #[.val (.ref xq), .val (.ref rr), .val (.int (Nat.toInt32 (ts - 1))), .unset] [(.int (Nat.toInt32 (ts - 1))), (.int (Nat.toInt32 ta))])) _
    exact k
  by_cases hF : (Nat.toInt32 ta) = (Nat.toInt32 (ts - 1))
  · have A156 : ∀ t, Steps p.tables e below (T154.setTop (mkF m 16 #[.val (.ref xq), .val (.ref rr), .val (.int (Nat.toInt32 (ts - 1))), .unset] [])) t → Steps p.tables e below (s₁.setTop (entryFrame m #[(.ref xq), (.ref rr)] 4)) t := by
      intro t k
      refine A155 _ ?_
      refine XS.icmpNo X154.here hx rfl (hb hby da_13) rfl (teq hF).2 ?_
      show Steps p.tables e below (T154.setTop (mkF m 16 #[.val (.ref xq), .val (.ref rr), .val (.int (Nat.toInt32 (ts - 1))), .unset] [])) _
      exact k
    have hfull : ta = ts - 1 := (own_inj (a := ta) (b := ts - 1) (by omega) (by omega)).mp hF
    have hts : ts = 2 ∨ ts = 4 := by have := SH.2.2.2; omega
    have A157 : ∀ t, Steps p.tables e below (T154.setTop (mkF m 18 #[.val (.ref xq), .val (.ref rr), .val (.int (Nat.toInt32 (ts - 1))), .unset] [(.ref xq), (.int (2 : Int32))])) t → Steps p.tables e below (s₁.setTop (entryFrame m #[(.ref xq), (.ref rr)] 4)) t := by
      intro t k
      refine A156 _ ?_
      refine XS.iconst X154.here hx rfl (hb hby da_16) ?_
      show Steps p.tables e below (T154.setTop (mkF m 17 #[.val (.ref xq), .val (.ref rr), .val (.int (Nat.toInt32 (ts - 1))), .unset] [(.int (2 : Int32))])) _
      refine XS.aloadN X154.here hx rfl (hb hby da_17) rfl rfl ?_
      show Steps p.tables e below (T154.setTop (mkF m 18 #[.val (.ref xq), .val (.ref rr), .val (.int (Nat.toInt32 (ts - 1))), .unset] [(.ref xq), (.int (2 : Int32))])) _
      exact k
    obtain ⟨T158, X158, e158, st158⟩ := getF X154 hx hZ hown (host := "") (Or.inl (hw _ (List.mem_of_getElem? (i := 13) rfl))) Via.refl e154 FT (g := (mkF m 18 #[.val (.ref xq), .val (.ref rr), .val (.int (Nat.toInt32 (ts - 1))), .unset] [(.ref xq), (.int (2 : Int32))])) rfl rfl (hb hby da_18)
    have A159 : ∀ t, Steps p.tables e below (T158.setTop (mkF m 26 #[.val (.ref xq), .val (.ref rr), .val (.int (Nat.toInt32 (ts - 1))), .unset] [(.int (1024 : Int32)), (.int ((2 : Int32) * (Nat.toInt32 ts)))])) t → Steps p.tables e below (s₁.setTop (entryFrame m #[(.ref xq), (.ref rr)] 4)) t := by
      intro t k
      refine A157 _ ?_
      refine st158 _ ?_
      show Steps p.tables e below (T158.setTop (mkF m 21 #[.val (.ref xq), .val (.ref rr), .val (.int (Nat.toInt32 (ts - 1))), .unset] [(.ref xt), (.int (2 : Int32))])) _
      refine X158.arraylength hx (by rw [e158]; exact KT.1.1) (State.isArrayOf_alike hZ.alike KT.1.2.1) (g := (mkF m 21 #[.val (.ref xq), .val (.ref rr), .val (.int (Nat.toInt32 (ts - 1))), .unset] [(.ref xt), (.int (2 : Int32))])) rfl rfl (hb hby da_21) _ ?_
      rw [KT.2.1]
      show Steps p.tables e below (T158.setTop (mkF m 22 #[.val (.ref xq), .val (.ref rr), .val (.int (Nat.toInt32 (ts - 1))), .unset] [(.int (Nat.toInt32 ts)), (.int (2 : Int32))])) _
      refine XS.imul X158.here hx rfl (hb hby da_22) rfl ?_
      show Steps p.tables e below (T158.setTop (mkF m 23 #[.val (.ref xq), .val (.ref rr), .val (.int (Nat.toInt32 (ts - 1))), .unset] [(.int ((2 : Int32) * (Nat.toInt32 ts)))])) _
      refine XS.sipush X158.here hx rfl (hb hby da_23) ?_
      show Steps p.tables e below (T158.setTop (mkF m 26 #[.val (.ref xq), .val (.ref rr), .val (.int (Nat.toInt32 (ts - 1))), .unset] [(.int (1024 : Int32)), (.int ((2 : Int32) * (Nat.toInt32 ts)))])) _
      exact k
    obtain ⟨_, _, ⟨T160, L160, k160, n160⟩, -, X160, ⟨Lc160, hQ160, l160, y160, z160⟩, st160⟩ := Jvm.LawKit.callS X158 hx (y := (⟨"java/lang/Math", "min", "(II)I"⟩ : MethodName)) hown (mvT hZ (hw _ (List.mem_of_getElem? (i := 52) rfl))) (mvT hZ (hw _ (List.mem_of_getElem? (i := 53) rfl))) (mvT hZ (hw _ (List.mem_of_getElem? (i := 54) rfl))) (mvT hZ (hw _ (List.mem_of_getElem? (i := 55) rfl))) (by decide) (backOf (W := 0) (own_min l Z a0 hw [] ((2 : Int32) * (Nat.toInt32 ts)) (1024 : Int32) h0 n0 Z0) hZ (hw _ (List.mem_of_getElem? (i := 55) rfl)) (hw _ (List.mem_of_getElem? (i := 54) rfl)) (by decide) (by decide)) (g := (mkF m 26 #[.val (.ref xq), .val (.ref rr), .val (.int (Nat.toInt32 (ts - 1))), .unset] [(.int (1024 : Int32)), (.int ((2 : Int32) * (Nat.toInt32 ts)))])) rfl (by rw [hml]; rfl) (argsL := [(.int ((2 : Int32) * (Nat.toInt32 ts))), (.int (1024 : Int32))]) (rest := []) (lenOf own_pd2 rfl) rfl (by show 2 * 0 + _ ≤ _; exact Nat.le_of_eq rfl) (hb hby da_26) (fun _ _ => ⟨rfl, e158, (by decide : 0 + 0 ≤ _), (by decide : 0 + 0 ≤ _)⟩)
    dsimp only [Pt.U, Pt.locs, Pt.cells, Pt.slots] at X160 l160 y160 z160 st160 hQ160
    subst l160 y160 z160
    obtain ⟨rfl, Nq160, eh160⟩ := hQ160
    have Nf161 := Fr.app N0 Nq160
    have A162 : ∀ t, Steps p.tables e below (T160.setTop (mkF m 29 #[.val (.ref xq), .val (.ref rr), .val (.int (Nat.toInt32 (ts - 1))), .unset] [(.int (if (1024 : Int32) < ((2 : Int32) * (Nat.toInt32 ts)) then (1024 : Int32) else ((2 : Int32) * (Nat.toInt32 ts))))])) t → Steps p.tables e below (s₁.setTop (entryFrame m #[(.ref xq), (.ref rr)] 4)) t := by
      intro t k
      refine A159 _ ?_
      refine st160 _ ?_
      show Steps p.tables e below (T160.setTop (mkF m 29 #[.val (.ref xq), .val (.ref rr), .val (.int (Nat.toInt32 (ts - 1))), .unset] [(.int (if (1024 : Int32) < ((2 : Int32) * (Nat.toInt32 ts)) then (1024 : Int32) else ((2 : Int32) * (Nat.toInt32 ts))))])) _
      exact k
    have hw163 : (if (1024 : Int32) < ((2 : Int32) * (Nat.toInt32 ts)) then (1024 : Int32) else ((2 : Int32) * (Nat.toInt32 ts))) = (Nat.toInt32 (2 * ts)) := by rcases hts with rfl | rfl <;> first | rfl | decide
    rw [hw163] at A162
    obtain ⟨T164, h164, k164, X164, e164, E164, B164, Y164, O164, st164⟩ := newRE X160 hx hZ hown (hw _ (List.mem_of_getElem? (i := 9) rfl)) (hw _ (List.mem_of_getElem? (i := 10) rfl)) eh160 (g := (mkF m 29 #[.val (.ref xq), .val (.ref rr), .val (.int (Nat.toInt32 (ts - 1))), .unset] [(.int (Nat.toInt32 (2 * ts)))])) rfl (hb hby da_29) rfl (own_nn (by omega)) (cap := 8) (by rw [own_tn (by omega)]; omega) (by decide) (by decide) (by decide) (ad := "[Ljava/lang/Object;") rfl
    obtain ⟨b164, g164⟩ : ∃ z, z = h0.size := ⟨_, rfl⟩
    rw [← g164] at B164 Y164 st164
    have neq : b164 ≠ xq := Ne.symm (Nat.ne_of_lt (Nat.lt_of_lt_of_le E0.lt (Nat.le_of_eq g164.symm)))
    have net : b164 ≠ xt := Ne.symm (Nat.ne_of_lt (Nat.lt_of_lt_of_le KT.lt (Nat.le_of_eq g164.symm)))
    have ge165 := Nat.le_trans Z0 (Nat.le_of_eq g164.symm)
    have sz166 := Nat.le_trans (Keep.refl h0 [xt, xq]).1 (Nat.le_of_eq g164.symm)
    have Kp167 := (Keep.refl h0 [xt, xq]).ext E164
    have Ol168 := O0.ext E164
    have Ex169 := E0.ext E164
    have Fl170 := FH.ext E164
    have Fl171 := FA.ext E164
    have Fl172 := FT.ext E164
    have Fl173 := FB.ext E164
    have Ar174 := KT.ext E164
    have Zs175 := Nat.le_trans Z0 E164.1
    have KB : own_Chk Z h164 xq n0 b164 (2 * ts) (newA k164 (.object "java/lang/Object") (Nat.toInt32 (2 * ts))) := ⟨B164, by rw [sz_new, own_tn (by omega)], O164, Y164, neq, ge165, by omega, by omega⟩
    have A176 : ∀ t, Steps p.tables e below (T164.setTop (mkF m 34 #[.val (.ref xq), .val (.ref rr), .val (.int (Nat.toInt32 (ts - 1))), .val (.ref b164)] [(.ref xq)])) t → Steps p.tables e below (s₁.setTop (entryFrame m #[(.ref xq), (.ref rr)] 4)) t := by
      intro t k
      refine A162 _ ?_
      refine st164 _ ?_
      show Steps p.tables e below (T164.setTop (mkF m 32 #[.val (.ref xq), .val (.ref rr), .val (.int (Nat.toInt32 (ts - 1))), .unset] [(.ref b164)])) _
      refine XS.astoreN X164.here hx rfl (hb hby da_32) rfl rfl (l' := #[.val (.ref xq), .val (.ref rr), .val (.int (Nat.toInt32 (ts - 1))), .val (.ref b164)]) rfl ?_
      show Steps p.tables e below (T164.setTop (mkF m 33 #[.val (.ref xq), .val (.ref rr), .val (.int (Nat.toInt32 (ts - 1))), .val (.ref b164)] [])) _
      refine XS.aloadN X164.here hx rfl (hb hby da_33) rfl rfl ?_
      show Steps p.tables e below (T164.setTop (mkF m 34 #[.val (.ref xq), .val (.ref rr), .val (.int (Nat.toInt32 (ts - 1))), .val (.ref b164)] [(.ref xq)])) _
      exact k
    obtain ⟨T177, X177, e177, st177⟩ := getF X164 hx hZ hown (host := "") (Or.inl (hw _ (List.mem_of_getElem? (i := 13) rfl))) Via.refl e164 Fl172 (g := (mkF m 34 #[.val (.ref xq), .val (.ref rr), .val (.int (Nat.toInt32 (ts - 1))), .val (.ref b164)] [(.ref xq)])) rfl rfl (hb hby da_34)
    have A178 : ∀ t, Steps p.tables e below (T177.setTop (mkF m 39 #[.val (.ref xq), .val (.ref rr), .val (.int (Nat.toInt32 (ts - 1))), .val (.ref b164)] [(.ref b164), (.int (Nat.toInt32 (ts - 1))), (.ref xt)])) t → Steps p.tables e below (s₁.setTop (entryFrame m #[(.ref xq), (.ref rr)] 4)) t := by
      intro t k
      refine A176 _ ?_
      refine st177 _ ?_
      show Steps p.tables e below (T177.setTop (mkF m 37 #[.val (.ref xq), .val (.ref rr), .val (.int (Nat.toInt32 (ts - 1))), .val (.ref b164)] [(.ref xt)])) _
      refine XS.iloadN X177.here hx rfl (hb hby da_37) rfl ?_
      show Steps p.tables e below (T177.setTop (mkF m 38 #[.val (.ref xq), .val (.ref rr), .val (.int (Nat.toInt32 (ts - 1))), .val (.ref b164)] [(.int (Nat.toInt32 (ts - 1))), (.ref xt)])) _
      refine XS.aloadN X177.here hx rfl (hb hby da_38) rfl rfl ?_
      show Steps p.tables e below (T177.setTop (mkF m 39 #[.val (.ref xq), .val (.ref rr), .val (.int (Nat.toInt32 (ts - 1))), .val (.ref b164)] [(.ref b164), (.int (Nat.toInt32 (ts - 1))), (.ref xt)])) _
      exact k
    have hin : ¬ ((Nat.toInt32 (ts - 1)) < 0 ∨ ct.slots.size ≤ (Nat.toInt32 (ts - 1)).toNatClampNeg) := idx_in (n := ct.slots.size) (by rw [KT.2.1]; omega) (by rw [KT.2.1]; omega)
    obtain ⟨T179, h179, X179, e179, W179, st179⟩ := stR X177 hx hZ e177 Ar174.1 (j := (Nat.toInt32 (ts - 1))) hin rfl (Sto.of Ar174.1 Ar174.2.2.1 (Ins.of_exa KB.2.2.2.1 (hw _ (List.mem_of_getElem? (i := 56) rfl)))) (g := (mkF m 39 #[.val (.ref xq), .val (.ref rr), .val (.int (Nat.toInt32 (ts - 1))), .val (.ref b164)] [(.ref b164), (.int (Nat.toInt32 (ts - 1))), (.ref xt)])) rfl rfl (hb hby da_39)
    rw [own_tn (by omega)] at W179
    have Ex180 := Ex169.wr W179
    have Fl181 := Fl170.other W179 (Or.inl (Ne.symm KT.2.2.2.2.1))
    have Fl182 := Fl171.other W179 (Or.inl (Ne.symm KT.2.2.2.2.1))
    have Fl183 := Fl172.other W179 (Or.inl (Ne.symm KT.2.2.2.2.1))
    have Fl184 := Fl173.other W179 (Or.inl (Ne.symm KT.2.2.2.2.1))
    have Ar185 := Ar174.set W179
    have Ar186 := KB.other W179 net
    have Zs187 := Nat.le_trans Zs175 (Keep.of_wr W179).1
    have Nf188 := Fr.snoc X179 Nf161 KT.2.2.2.2.2.1
    have Ol189 := Ol168.wr W179 KT.2.2.2.2.2.1
    have Kp190 := Kp167.wr W179 (Or.inl (List.mem_of_getElem? (i := 0) rfl))
    have A191 : ∀ t, Steps p.tables e below (T179.setTop (mkF m 42 #[.val (.ref xq), .val (.ref rr), .val (.int (Nat.toInt32 (ts - 1))), .val (.ref b164)] [(.ref b164), (.ref xq)])) t → Steps p.tables e below (s₁.setTop (entryFrame m #[(.ref xq), (.ref rr)] 4)) t := by
      intro t k
      refine A178 _ ?_
      refine st179 _ ?_
      show Steps p.tables e below (T179.setTop (mkF m 40 #[.val (.ref xq), .val (.ref rr), .val (.int (Nat.toInt32 (ts - 1))), .val (.ref b164)] [])) _
      refine XS.aloadN X179.here hx rfl (hb hby da_40) rfl rfl ?_
      show Steps p.tables e below (T179.setTop (mkF m 41 #[.val (.ref xq), .val (.ref rr), .val (.int (Nat.toInt32 (ts - 1))), .val (.ref b164)] [(.ref xq)])) _
      refine XS.aloadN X179.here hx rfl (hb hby da_41) rfl rfl ?_
      show Steps p.tables e below (T179.setTop (mkF m 42 #[.val (.ref xq), .val (.ref rr), .val (.int (Nat.toInt32 (ts - 1))), .val (.ref b164)] [(.ref b164), (.ref xq)])) _
      exact k
    obtain ⟨T192, h192, X192, e192, W192, st192⟩ := putF X179 hx hZ hown (host := "") (Or.inl (hw _ (List.mem_of_getElem? (i := 13) rfl))) Via.refl e179 Fl183 Ex180 (Or.inl (hw _ (List.mem_of_getElem? (i := 14) rfl))) (hw _ (List.mem_of_getElem? (i := 1) rfl)) (ty := (.array (.object "java/lang/Object"))) (by decide) rfl rfl (g := (mkF m 42 #[.val (.ref xq), .val (.ref rr), .val (.int (Nat.toInt32 (ts - 1))), .val (.ref b164)] [(.ref b164), (.ref xq)])) rfl rfl (hb hby da_42)
    have Ex193 := Ex180.wr W192
    have Fl194 := Fl181.other W192 (Or.inr (slot_ne (Or.inl (hw _ (List.mem_of_getElem? (i := 12) rfl))) (Or.inl (hw _ (List.mem_of_getElem? (i := 14) rfl))) (by decide) (t := (.array (.object "java/lang/Object"))) (t' := (.array (.object "java/lang/Object"))) (by decide) (by decide)))
    have Fl195 := Fl182.other W192 (Or.inr (slot_ne (Or.inl (hw _ (List.mem_of_getElem? (i := 21) rfl))) (Or.inl (hw _ (List.mem_of_getElem? (i := 14) rfl))) (by decide) (t := .int) (t' := (.array (.object "java/lang/Object"))) (by decide) (by decide)))
    have Fl196 := Fl183.same W192
    have Fl197 := Fl184.other W192 (Or.inr (slot_ne (Or.inl (hw _ (List.mem_of_getElem? (i := 23) rfl))) (Or.inl (hw _ (List.mem_of_getElem? (i := 14) rfl))) (by decide) (t := .int) (t' := (.array (.object "java/lang/Object"))) (by decide) (by decide)))
    have Ar198 := Ar185.other W192 KT.2.2.2.2.1
    have Ar199 := Ar186.other W192 neq
    have Zs200 := Nat.le_trans Zs187 (Keep.of_wr W192).1
    have Nf201 := Fr.snoc X192 Nf188 gq
    have Ol202 := Ol189.wr W192 gq
    have Kp203 := Kp190.wr W192 (Or.inl (List.mem_of_getElem? (i := 1) rfl))
    have A204 : ∀ t, Steps p.tables e below (T192.setTop (mkF m 47 #[.val (.ref xq), .val (.ref rr), .val (.int (Nat.toInt32 (ts - 1))), .val (.ref b164)] [(.int (0 : Int32)), (.ref xq)])) t → Steps p.tables e below (s₁.setTop (entryFrame m #[(.ref xq), (.ref rr)] 4)) t := by
      intro t k
      refine A191 _ ?_
      refine st192 _ ?_
      show Steps p.tables e below (T192.setTop (mkF m 45 #[.val (.ref xq), .val (.ref rr), .val (.int (Nat.toInt32 (ts - 1))), .val (.ref b164)] [])) _
      refine XS.aloadN X192.here hx rfl (hb hby da_45) rfl rfl ?_
      show Steps p.tables e below (T192.setTop (mkF m 46 #[.val (.ref xq), .val (.ref rr), .val (.int (Nat.toInt32 (ts - 1))), .val (.ref b164)] [(.ref xq)])) _
      refine XS.iconst X192.here hx rfl (hb hby da_46) ?_
      show Steps p.tables e below (T192.setTop (mkF m 47 #[.val (.ref xq), .val (.ref rr), .val (.int (Nat.toInt32 (ts - 1))), .val (.ref b164)] [(.int (0 : Int32)), (.ref xq)])) _
      exact k
    obtain ⟨T205, h205, X205, e205, W205, st205⟩ := putF X192 hx hZ hown (host := "") (Or.inl (hw _ (List.mem_of_getElem? (i := 22) rfl))) Via.refl e192 Fl197 Ex193 (Or.inl (hw _ (List.mem_of_getElem? (i := 23) rfl))) (hw _ (List.mem_of_getElem? (i := 1) rfl)) (ty := .int) (by decide) rfl rfl (g := (mkF m 47 #[.val (.ref xq), .val (.ref rr), .val (.int (Nat.toInt32 (ts - 1))), .val (.ref b164)] [(.int (0 : Int32)), (.ref xq)])) rfl rfl (hb hby da_47)
    have Ex206 := Ex193.wr W205
    have Fl207 := Fl194.other W205 (Or.inr (slot_ne (Or.inl (hw _ (List.mem_of_getElem? (i := 12) rfl))) (Or.inl (hw _ (List.mem_of_getElem? (i := 23) rfl))) (by decide) (t := (.array (.object "java/lang/Object"))) (t' := .int) (by decide) (by decide)))
    have Fl208 := Fl195.other W205 (Or.inr (slot_ne (Or.inl (hw _ (List.mem_of_getElem? (i := 21) rfl))) (Or.inl (hw _ (List.mem_of_getElem? (i := 23) rfl))) (by decide) (t := .int) (t' := .int) (by decide) (by decide)))
    have Fl209 := Fl196.other W205 (Or.inr (slot_ne (Or.inl (hw _ (List.mem_of_getElem? (i := 14) rfl))) (Or.inl (hw _ (List.mem_of_getElem? (i := 23) rfl))) (by decide) (t := (.array (.object "java/lang/Object"))) (t' := .int) (by decide) (by decide)))
    have Fl210 := Fl197.same W205
    have Ar211 := Ar198.other W205 KT.2.2.2.2.1
    have Ar212 := Ar199.other W205 neq
    have Zs213 := Nat.le_trans Zs200 (Keep.of_wr W205).1
    have Nf214 := Fr.snoc X205 Nf201 gq
    have Ol215 := Ol202.wr W205 gq
    have Kp216 := Kp203.wr W205 (Or.inl (List.mem_of_getElem? (i := 1) rfl))
    have A217 : ∀ t, Steps p.tables e below (T205.setTop (mkF m 51 #[.val (.ref xq), .val (.ref rr), .val (.int (Nat.toInt32 (ts - 1))), .val (.ref b164)] [(.ref xq)])) t → Steps p.tables e below (s₁.setTop (entryFrame m #[(.ref xq), (.ref rr)] 4)) t := by
      intro t k
      refine A204 _ ?_
      refine st205 _ ?_
      show Steps p.tables e below (T205.setTop (mkF m 50 #[.val (.ref xq), .val (.ref rr), .val (.int (Nat.toInt32 (ts - 1))), .val (.ref b164)] [])) _
      refine XS.aloadN X205.here hx rfl (hb hby da_50) rfl rfl ?_
      show Steps p.tables e below (T205.setTop (mkF m 51 #[.val (.ref xq), .val (.ref rr), .val (.int (Nat.toInt32 (ts - 1))), .val (.ref b164)] [(.ref xq)])) _
      exact k
    obtain ⟨T218, X218, e218, st218⟩ := getF X205 hx hZ hown (host := "") (Or.inl (hw _ (List.mem_of_getElem? (i := 13) rfl))) Via.refl e205 Fl209 (g := (mkF m 51 #[.val (.ref xq), .val (.ref rr), .val (.int (Nat.toInt32 (ts - 1))), .val (.ref b164)] [(.ref xq)])) rfl rfl (hb hby da_51)
    have A219 : ∀ t, Steps p.tables e below (T218.setTop (mkF m 56 #[.val (.ref xq), .val (.ref rr), .val (.int (Nat.toInt32 (ts - 1))), .val (.ref b164)] [(.ref xq), (.ref xq), (.ref b164)])) t → Steps p.tables e below (s₁.setTop (entryFrame m #[(.ref xq), (.ref rr)] 4)) t := by
      intro t k
      refine A217 _ ?_
      refine st218 _ ?_
      show Steps p.tables e below (T218.setTop (mkF m 54 #[.val (.ref xq), .val (.ref rr), .val (.int (Nat.toInt32 (ts - 1))), .val (.ref b164)] [(.ref b164)])) _
      refine XS.aloadN X218.here hx rfl (hb hby da_54) rfl rfl ?_
      show Steps p.tables e below (T218.setTop (mkF m 55 #[.val (.ref xq), .val (.ref rr), .val (.int (Nat.toInt32 (ts - 1))), .val (.ref b164)] [(.ref xq), (.ref b164)])) _
      refine XS.dup X218.here hx rfl (hb hby da_55) rfl rfl ?_
      show Steps p.tables e below (T218.setTop (mkF m 56 #[.val (.ref xq), .val (.ref rr), .val (.int (Nat.toInt32 (ts - 1))), .val (.ref b164)] [(.ref xq), (.ref xq), (.ref b164)])) _
      exact k
    obtain ⟨T220, X220, e220, st220⟩ := getF X218 hx hZ hown (host := "") (Or.inl (hw _ (List.mem_of_getElem? (i := 22) rfl))) Via.refl e218 Fl210 (g := (mkF m 56 #[.val (.ref xq), .val (.ref rr), .val (.int (Nat.toInt32 (ts - 1))), .val (.ref b164)] [(.ref xq), (.ref xq), (.ref b164)])) rfl rfl (hb hby da_56)
    have A221 : ∀ t, Steps p.tables e below (T220.setTop (mkF m 62 #[.val (.ref xq), .val (.ref rr), .val (.int (Nat.toInt32 (ts - 1))), .val (.ref b164)] [(.int ((0 : Int32) + (1 : Int32))), (.ref xq), (.int (0 : Int32)), (.ref b164)])) t → Steps p.tables e below (s₁.setTop (entryFrame m #[(.ref xq), (.ref rr)] 4)) t := by
      intro t k
      refine A219 _ ?_
      refine st220 _ ?_
      show Steps p.tables e below (T220.setTop (mkF m 59 #[.val (.ref xq), .val (.ref rr), .val (.int (Nat.toInt32 (ts - 1))), .val (.ref b164)] [(.int (0 : Int32)), (.ref xq), (.ref b164)])) _
      refine XS.dupX1 X220.here hx rfl (hb hby da_59) rfl rfl rfl ?_
      show Steps p.tables e below (T220.setTop (mkF m 60 #[.val (.ref xq), .val (.ref rr), .val (.int (Nat.toInt32 (ts - 1))), .val (.ref b164)] [(.int (0 : Int32)), (.ref xq), (.int (0 : Int32)), (.ref b164)])) _
      refine XS.iconst X220.here hx rfl (hb hby da_60) ?_
      show Steps p.tables e below (T220.setTop (mkF m 61 #[.val (.ref xq), .val (.ref rr), .val (.int (Nat.toInt32 (ts - 1))), .val (.ref b164)] [(.int (1 : Int32)), (.int (0 : Int32)), (.ref xq), (.int (0 : Int32)), (.ref b164)])) _
      refine XS.iadd X220.here hx rfl (hb hby da_61) rfl ?_
      show Steps p.tables e below (T220.setTop (mkF m 62 #[.val (.ref xq), .val (.ref rr), .val (.int (Nat.toInt32 (ts - 1))), .val (.ref b164)] [(.int ((0 : Int32) + (1 : Int32))), (.ref xq), (.int (0 : Int32)), (.ref b164)])) _
      exact k
    have hw222 : ((0 : Int32) + (1 : Int32)) = (Nat.toInt32 1) := rfl
    rw [hw222] at A221
    obtain ⟨T223, h223, X223, e223, W223, st223⟩ := putF X220 hx hZ hown (host := "") (Or.inl (hw _ (List.mem_of_getElem? (i := 22) rfl))) Via.refl e220 Fl210 Ex206 (Or.inl (hw _ (List.mem_of_getElem? (i := 23) rfl))) (hw _ (List.mem_of_getElem? (i := 1) rfl)) (ty := .int) (by decide) rfl rfl (g := (mkF m 62 #[.val (.ref xq), .val (.ref rr), .val (.int (Nat.toInt32 (ts - 1))), .val (.ref b164)] [(.int (Nat.toInt32 1)), (.ref xq), (.int (0 : Int32)), (.ref b164)])) rfl rfl (hb hby da_62)
    have Ex224 := Ex206.wr W223
    have Fl225 := Fl207.other W223 (Or.inr (slot_ne (Or.inl (hw _ (List.mem_of_getElem? (i := 12) rfl))) (Or.inl (hw _ (List.mem_of_getElem? (i := 23) rfl))) (by decide) (t := (.array (.object "java/lang/Object"))) (t' := .int) (by decide) (by decide)))
    have Fl226 := Fl208.other W223 (Or.inr (slot_ne (Or.inl (hw _ (List.mem_of_getElem? (i := 21) rfl))) (Or.inl (hw _ (List.mem_of_getElem? (i := 23) rfl))) (by decide) (t := .int) (t' := .int) (by decide) (by decide)))
    have Fl227 := Fl209.other W223 (Or.inr (slot_ne (Or.inl (hw _ (List.mem_of_getElem? (i := 14) rfl))) (Or.inl (hw _ (List.mem_of_getElem? (i := 23) rfl))) (by decide) (t := (.array (.object "java/lang/Object"))) (t' := .int) (by decide) (by decide)))
    have Fl228 := Fl210.same W223
    have Ar229 := Ar211.other W223 KT.2.2.2.2.1
    have Ar230 := Ar212.other W223 neq
    have Zs231 := Nat.le_trans Zs213 (Keep.of_wr W223).1
    have Nf232 := Fr.snoc X223 Nf214 gq
    have Ol233 := Ol215.wr W223 gq
    have Kp234 := Kp216.wr W223 (Or.inl (List.mem_of_getElem? (i := 1) rfl))
    have A235 : ∀ t, Steps p.tables e below (T223.setTop (mkF m 66 #[.val (.ref xq), .val (.ref rr), .val (.int (Nat.toInt32 (ts - 1))), .val (.ref b164)] [(.ref rr), (.int (0 : Int32)), (.ref b164)])) t → Steps p.tables e below (s₁.setTop (entryFrame m #[(.ref xq), (.ref rr)] 4)) t := by
      intro t k
      refine A221 _ ?_
      refine st223 _ ?_
      show Steps p.tables e below (T223.setTop (mkF m 65 #[.val (.ref xq), .val (.ref rr), .val (.int (Nat.toInt32 (ts - 1))), .val (.ref b164)] [(.int (0 : Int32)), (.ref b164)])) _
      refine XS.aloadN X223.here hx rfl (hb hby da_65) rfl rfl ?_
      show Steps p.tables e below (T223.setTop (mkF m 66 #[.val (.ref xq), .val (.ref rr), .val (.int (Nat.toInt32 (ts - 1))), .val (.ref b164)] [(.ref rr), (.int (0 : Int32)), (.ref b164)])) _
      exact k
    have hin0 : ¬ ((0 : Int32) < 0 ∨ (newA k164 (.object "java/lang/Object") (Nat.toInt32 (2 * ts))).slots.size ≤ (0 : Int32).toNatClampNeg) := inb_of (z := (Nat.toInt32 (2 * ts))) (sz_new _ _ _) ⟨by decide, by rcases hts with rfl | rfl <;> decide⟩
    obtain ⟨T236, h236, X236, e236, W236, st236⟩ := stR X223 hx hZ e223 Ar230.1 (j := (0 : Int32)) hin0 rfl (Sto.of Ar230.1 Ar230.2.2.1 (Ins.of_exa (ER.ext Ol233.2) (hw _ (List.mem_of_getElem? (i := 51) rfl)))) (g := (mkF m 66 #[.val (.ref xq), .val (.ref rr), .val (.int (Nat.toInt32 (ts - 1))), .val (.ref b164)] [(.ref rr), (.int (0 : Int32)), (.ref b164)])) rfl rfl (hb hby da_66)
    have Ex237 := Ex224.wr W236
    have Fl238 := Fl225.other W236 (Or.inl (Ne.symm neq))
    have Fl239 := Fl226.other W236 (Or.inl (Ne.symm neq))
    have Fl240 := Fl227.other W236 (Or.inl (Ne.symm neq))
    have Fl241 := Fl228.other W236 (Or.inl (Ne.symm neq))
    have Ar242 := Ar229.other W236 (Ne.symm net)
    have Ar243 := Ar230.set W236
    have Zs244 := Nat.le_trans Zs231 (Keep.of_wr W236).1
    have Nf245 := Fr.snoc X236 Nf232 ge165
    have Ol246 := Ol233.wr W236 ge165
    have Kp247 := Kp234.wr W236 (Or.inr sz166)
    have A248 : ∀ t, Steps p.tables e below (T236.setTop (mkF m 67 #[.val (.ref xq), .val (.ref rr), .val (.int (Nat.toInt32 (ts - 1))), .val (.ref b164)] [])) t → Steps p.tables e below (s₁.setTop (entryFrame m #[(.ref xq), (.ref rr)] 4)) t := by
      intro t k
      refine A235 _ ?_
      refine st236 _ ?_
      show Steps p.tables e below (T236.setTop (mkF m 67 #[.val (.ref xq), .val (.ref rr), .val (.int (Nat.toInt32 (ts - 1))), .val (.ref b164)] [])) _
      exact k
    subst hfull
    have CH2 := own_grow Kp247 KT.1.1 Ar242 sz166 ⟨_, Ar243, _, own_hit (by rw [sz_new, own_tn (by omega)]; show 0 < _; omega), ⟨rr, rfl, ER⟩⟩ (fun y => Nat.lt_of_le_of_ne (SH.1 y).1 (fun z => by have := (SH.1 y).2 z; omega)) CH
    have hc2 := own_cnt_grow (b := b164) (bs := 2 * ts) CH
    have S2 : own_Sh (xr ++ [(b164, 2 * ts)]) lo (2 * ts) 1 (k + 1) := ⟨fun y => absurd y (by simp), fun _ => Nat.le_refl _, by omega, by have := SH.2.2.2; omega⟩
    obtain ⟨fs, hr, hrun, hended, hW, hsame⟩ := X236.leave (v := none) (fun _ => rfl)
    refine ⟨_, _, A248 _ ?_, hrun, hended, _, _, rfl, ?_, ⟨_, rfl⟩, hW, hsame.mono (by decide) (by decide)⟩
    · exact X236.returnOut hx Bd.returns (hb hby da_67) hr
    · show own_add_Q Z xq k (own_cnt (ts - 1) xr lo sz) h0 n0 _ T236.heap _
      rw [e236]
      exact ⟨rfl, Nf245, Zs244, Ol246, xr ++ [(b164, 2 * ts)], lo, xh, sz, b164, 2 * ts, 1, ⟨Ex237, Fl238, Fl239, Fl240, Fl241, CH2, S2, by omega⟩, hc2.symm⟩
  · have A249 : ∀ t, Steps p.tables e below (T154.setTop (mkF m 50 #[.val (.ref xq), .val (.ref rr), .val (.int (Nat.toInt32 (ts - 1))), .unset] [])) t → Steps p.tables e below (s₁.setTop (entryFrame m #[(.ref xq), (.ref rr)] 4)) t := by
      intro t k
      refine A155 _ ?_
      refine XS.icmpYes X154.here hx rfl (pc0 := 13) (pc' := 50) rfl (hb hby da_13) rfl (feq hF).2 (by decide) (by decide) ?_
      show Steps p.tables e below (T154.setTop (mkF m 50 #[.val (.ref xq), .val (.ref rr), .val (.int (Nat.toInt32 (ts - 1))), .unset] [])) _
      exact k
    have hlt : ta < ts - 1 := by have h1 : ta ≠ ts - 1 := fun y => hF ((own_inj (a := ta) (b := ts - 1) (by omega) (by omega)).mpr y); have h2 := SH.2.2.1; omega
    have A250 : ∀ t, Steps p.tables e below (T154.setTop (mkF m 51 #[.val (.ref xq), .val (.ref rr), .val (.int (Nat.toInt32 (ts - 1))), .unset] [(.ref xq)])) t → Steps p.tables e below (s₁.setTop (entryFrame m #[(.ref xq), (.ref rr)] 4)) t := by
      intro t k
      refine A249 _ ?_
      refine XS.aloadN X154.here hx rfl (hb hby da_50) rfl rfl ?_
      show Steps p.tables e below (T154.setTop (mkF m 51 #[.val (.ref xq), .val (.ref rr), .val (.int (Nat.toInt32 (ts - 1))), .unset] [(.ref xq)])) _
      exact k
    obtain ⟨T251, X251, e251, st251⟩ := getF X154 hx hZ hown (host := "") (Or.inl (hw _ (List.mem_of_getElem? (i := 13) rfl))) Via.refl e154 FT (g := (mkF m 51 #[.val (.ref xq), .val (.ref rr), .val (.int (Nat.toInt32 (ts - 1))), .unset] [(.ref xq)])) rfl rfl (hb hby da_51)
    have A252 : ∀ t, Steps p.tables e below (T251.setTop (mkF m 56 #[.val (.ref xq), .val (.ref rr), .val (.int (Nat.toInt32 (ts - 1))), .unset] [(.ref xq), (.ref xq), (.ref xt)])) t → Steps p.tables e below (s₁.setTop (entryFrame m #[(.ref xq), (.ref rr)] 4)) t := by
      intro t k
      refine A250 _ ?_
      refine st251 _ ?_
      show Steps p.tables e below (T251.setTop (mkF m 54 #[.val (.ref xq), .val (.ref rr), .val (.int (Nat.toInt32 (ts - 1))), .unset] [(.ref xt)])) _
      refine XS.aloadN X251.here hx rfl (hb hby da_54) rfl rfl ?_
      show Steps p.tables e below (T251.setTop (mkF m 55 #[.val (.ref xq), .val (.ref rr), .val (.int (Nat.toInt32 (ts - 1))), .unset] [(.ref xq), (.ref xt)])) _
      refine XS.dup X251.here hx rfl (hb hby da_55) rfl rfl ?_
      show Steps p.tables e below (T251.setTop (mkF m 56 #[.val (.ref xq), .val (.ref rr), .val (.int (Nat.toInt32 (ts - 1))), .unset] [(.ref xq), (.ref xq), (.ref xt)])) _
      exact k
    obtain ⟨T253, X253, e253, st253⟩ := getF X251 hx hZ hown (host := "") (Or.inl (hw _ (List.mem_of_getElem? (i := 22) rfl))) Via.refl e251 FB (g := (mkF m 56 #[.val (.ref xq), .val (.ref rr), .val (.int (Nat.toInt32 (ts - 1))), .unset] [(.ref xq), (.ref xq), (.ref xt)])) rfl rfl (hb hby da_56)
    have A254 : ∀ t, Steps p.tables e below (T253.setTop (mkF m 62 #[.val (.ref xq), .val (.ref rr), .val (.int (Nat.toInt32 (ts - 1))), .unset] [(.int ((Nat.toInt32 ta) + (1 : Int32))), (.ref xq), (.int (Nat.toInt32 ta)), (.ref xt)])) t → Steps p.tables e below (s₁.setTop (entryFrame m #[(.ref xq), (.ref rr)] 4)) t := by
      intro t k
      refine A252 _ ?_
      refine st253 _ ?_
      show Steps p.tables e below (T253.setTop (mkF m 59 #[.val (.ref xq), .val (.ref rr), .val (.int (Nat.toInt32 (ts - 1))), .unset] [(.int (Nat.toInt32 ta)), (.ref xq), (.ref xt)])) _
      refine XS.dupX1 X253.here hx rfl (hb hby da_59) rfl rfl rfl ?_
      show Steps p.tables e below (T253.setTop (mkF m 60 #[.val (.ref xq), .val (.ref rr), .val (.int (Nat.toInt32 (ts - 1))), .unset] [(.int (Nat.toInt32 ta)), (.ref xq), (.int (Nat.toInt32 ta)), (.ref xt)])) _
      refine XS.iconst X253.here hx rfl (hb hby da_60) ?_
      show Steps p.tables e below (T253.setTop (mkF m 61 #[.val (.ref xq), .val (.ref rr), .val (.int (Nat.toInt32 (ts - 1))), .unset] [(.int (1 : Int32)), (.int (Nat.toInt32 ta)), (.ref xq), (.int (Nat.toInt32 ta)), (.ref xt)])) _
      refine XS.iadd X253.here hx rfl (hb hby da_61) rfl ?_
      show Steps p.tables e below (T253.setTop (mkF m 62 #[.val (.ref xq), .val (.ref rr), .val (.int (Nat.toInt32 (ts - 1))), .unset] [(.int ((Nat.toInt32 ta) + (1 : Int32))), (.ref xq), (.int (Nat.toInt32 ta)), (.ref xt)])) _
      exact k
    have hw255 : ((Nat.toInt32 ta) + (1 : Int32)) = (Nat.toInt32 (ta + 1)) := own_s1 (by omega)
    rw [hw255] at A254
    obtain ⟨T256, h256, X256, e256, W256, st256⟩ := putF X253 hx hZ hown (host := "") (Or.inl (hw _ (List.mem_of_getElem? (i := 22) rfl))) Via.refl e253 FB E0 (Or.inl (hw _ (List.mem_of_getElem? (i := 23) rfl))) (hw _ (List.mem_of_getElem? (i := 1) rfl)) (ty := .int) (by decide) rfl rfl (g := (mkF m 62 #[.val (.ref xq), .val (.ref rr), .val (.int (Nat.toInt32 (ts - 1))), .unset] [(.int (Nat.toInt32 (ta + 1))), (.ref xq), (.int (Nat.toInt32 ta)), (.ref xt)])) rfl rfl (hb hby da_62)
    have Ex257 := E0.wr W256
    have Fl258 := FH.other W256 (Or.inr (slot_ne (Or.inl (hw _ (List.mem_of_getElem? (i := 12) rfl))) (Or.inl (hw _ (List.mem_of_getElem? (i := 23) rfl))) (by decide) (t := (.array (.object "java/lang/Object"))) (t' := .int) (by decide) (by decide)))
    have Fl259 := FA.other W256 (Or.inr (slot_ne (Or.inl (hw _ (List.mem_of_getElem? (i := 21) rfl))) (Or.inl (hw _ (List.mem_of_getElem? (i := 23) rfl))) (by decide) (t := .int) (t' := .int) (by decide) (by decide)))
    have Fl260 := FT.other W256 (Or.inr (slot_ne (Or.inl (hw _ (List.mem_of_getElem? (i := 14) rfl))) (Or.inl (hw _ (List.mem_of_getElem? (i := 23) rfl))) (by decide) (t := (.array (.object "java/lang/Object"))) (t' := .int) (by decide) (by decide)))
    have Fl261 := FB.same W256
    have Ar262 := KT.other W256 KT.2.2.2.2.1
    have Zs263 := Nat.le_trans Z0 (Keep.of_wr W256).1
    have Nf264 := Fr.snoc X256 N0 gq
    have Ol265 := O0.wr W256 gq
    have Kp266 := (Keep.refl h0 [xt, xq]).wr W256 (Or.inl (List.mem_of_getElem? (i := 1) rfl))
    have A267 : ∀ t, Steps p.tables e below (T256.setTop (mkF m 66 #[.val (.ref xq), .val (.ref rr), .val (.int (Nat.toInt32 (ts - 1))), .unset] [(.ref rr), (.int (Nat.toInt32 ta)), (.ref xt)])) t → Steps p.tables e below (s₁.setTop (entryFrame m #[(.ref xq), (.ref rr)] 4)) t := by
      intro t k
      refine A254 _ ?_
      refine st256 _ ?_
      show Steps p.tables e below (T256.setTop (mkF m 65 #[.val (.ref xq), .val (.ref rr), .val (.int (Nat.toInt32 (ts - 1))), .unset] [(.int (Nat.toInt32 ta)), (.ref xt)])) _
      refine XS.aloadN X256.here hx rfl (hb hby da_65) rfl rfl ?_
      show Steps p.tables e below (T256.setTop (mkF m 66 #[.val (.ref xq), .val (.ref rr), .val (.int (Nat.toInt32 (ts - 1))), .unset] [(.ref rr), (.int (Nat.toInt32 ta)), (.ref xt)])) _
      exact k
    have hin : ¬ ((Nat.toInt32 ta) < 0 ∨ ct.slots.size ≤ (Nat.toInt32 ta).toNatClampNeg) := idx_in (n := ct.slots.size) (by rw [KT.2.1]; omega) (by rw [KT.2.1]; omega)
    obtain ⟨T268, h268, X268, e268, W268, st268⟩ := stR X256 hx hZ e256 Ar262.1 (j := (Nat.toInt32 ta)) hin rfl (Sto.of Ar262.1 Ar262.2.2.1 (Ins.of_exa (ER.ext Ol265.2) (hw _ (List.mem_of_getElem? (i := 51) rfl)))) (g := (mkF m 66 #[.val (.ref xq), .val (.ref rr), .val (.int (Nat.toInt32 (ts - 1))), .unset] [(.ref rr), (.int (Nat.toInt32 ta)), (.ref xt)])) rfl rfl (hb hby da_66)
    rw [own_tn hta31] at W268
    have Ex269 := Ex257.wr W268
    have Fl270 := Fl258.other W268 (Or.inl (Ne.symm KT.2.2.2.2.1))
    have Fl271 := Fl259.other W268 (Or.inl (Ne.symm KT.2.2.2.2.1))
    have Fl272 := Fl260.other W268 (Or.inl (Ne.symm KT.2.2.2.2.1))
    have Fl273 := Fl261.other W268 (Or.inl (Ne.symm KT.2.2.2.2.1))
    have Ar274 := Ar262.set W268
    have Zs275 := Nat.le_trans Zs263 (Keep.of_wr W268).1
    have Nf276 := Fr.snoc X268 Nf264 KT.2.2.2.2.2.1
    have Ol277 := Ol265.wr W268 KT.2.2.2.2.2.1
    have Kp278 := Kp266.wr W268 (Or.inl (List.mem_of_getElem? (i := 0) rfl))
    have A279 : ∀ t, Steps p.tables e below (T268.setTop (mkF m 67 #[.val (.ref xq), .val (.ref rr), .val (.int (Nat.toInt32 (ts - 1))), .unset] [])) t → Steps p.tables e below (s₁.setTop (entryFrame m #[(.ref xq), (.ref rr)] 4)) t := by
      intro t k
      refine A267 _ ?_
      refine st268 _ ?_
      show Steps p.tables e below (T268.setTop (mkF m 67 #[.val (.ref xq), .val (.ref rr), .val (.int (Nat.toInt32 (ts - 1))), .unset] [])) _
      exact k
    have CH2 := own_push Kp278 KT.1.1 Ar274 ⟨rr, rfl, ER⟩ (by omega) CH
    have hc2 := own_cnt_push ta xr lo sz (fun y => (SH.1 y).1)
    have S2 : own_Sh xr lo ts (ta + 1) (k + 1) := ⟨fun y => ⟨by have := (SH.1 y).1; omega, fun z => by have := (SH.1 y).1; omega⟩, fun _ => by omega, by omega, by have := SH.2.2.2; omega⟩
    obtain ⟨fs, hr, hrun, hended, hW, hsame⟩ := X268.leave (v := none) (fun _ => rfl)
    refine ⟨_, _, A279 _ ?_, hrun, hended, _, _, rfl, ?_, ⟨_, rfl⟩, hW, hsame.mono (by decide) (by decide)⟩
    · exact X268.returnOut hx Bd.returns (hb hby da_67) hr
    · show own_add_Q Z xq k (own_cnt ta xr lo sz) h0 n0 _ T268.heap _
      rw [e268]
      exact ⟨rfl, Nf276, Zs275, Ol277, xr, lo, xh, sz, xt, ts, ta + 1, ⟨Ex269, Fl270, Fl271, Fl272, Fl273, CH2, S2, by omega⟩, hc2.symm⟩
def own_ini_Q (Z : State) (xq : Addr) (h0 : Heap) (n0 : Nat) (v : Option Value) (h : Heap) (L : List Loc) : Prop := v = none ∧ Fr n0 L ∧ n0 ≤ h.size ∧ Old Z n0 h ∧ own_QI Z h xq n0 0 0
theorem own_ini_ef (m : MethodId) (x0 : Addr) : entryFrame m #[(.ref x0)] 1 = mkF m 0 #[.val (.ref x0)] [] := by first | (simp [entryFrame, mkF, argsToLocals, Value.category]; done) | rfl
set_option maxRecDepth 65536 in
set_option maxHeartbeats 40000000 in
theorem own_ini (l : Launch) (Z : State) (a0 : Array Value) (hw : ∀ d ∈ tables_1, d.before a0 Z = true) (ws : List Jvm.Cond) (xq : Addr) (h0 : Heap) (n0 : Nat) (Z0 : n0 ≤ h0.size) (E0 : Exa Z h0 xq "com/example/fly_agaric/flyagaric/ChunkedQueue") (FH : Fld Z h0 xq "com/example/fly_agaric/flyagaric/ChunkedQueue" "head" "[Ljava/lang/Object;" .null) (FA : Fld Z h0 xq "com/example/fly_agaric/flyagaric/ChunkedQueue" "headAt" "I" (.int (0 : Int32))) (FT : Fld Z h0 xq "com/example/fly_agaric/flyagaric/ChunkedQueue" "tail" "[Ljava/lang/Object;" .null) (FB : Fld Z h0 xq "com/example/fly_agaric/flyagaric/ChunkedQueue" "tailAt" "I" (.int (0 : Int32))) (gq : n0 ≤ xq) (O0 : Old Z n0 h0) :
    MetFree l (⟨"com/example/fly_agaric/flyagaric/ChunkedQueue", "<init>", "()V"⟩ : MethodName) (head1 (Jvm.Cond.code (⟨"com/example/fly_agaric/flyagaric/ChunkedQueue", "<init>", "()V"⟩ : MethodName) prog_9_method_1_code 1 none :: ws) ({ frames := 1, cells := 1, slots := 2, locals := 12 } : Room)) (fun a U => a = #[(.ref xq)] ∧ Z.Warmed39 U.vm ∧ U.heap = h0) (fun _ _ _ _ _ => True) (fun _ U o U' => ∃ v L, o = .returned v ∧ own_ini_Q Z xq h0 n0 v U'.heap L ∧ FrameEnd U o U' L ({ frames := 1, cells := 1, slots := 2, locals := 12 } : Room).cells ({ frames := 1, cells := 1, slots := 2, locals := 12 } : Room).slots) := by
  refine MetFree.of_bodySF (plainFor_of_name own_pn1) hisR ?_
  intro p e s m args below meth c s₁ Bd hml0 hP hK
  obtain ⟨rfl, hZ, hh⟩ := hP
  have hx := Bd.exec
  have hby := Bd.bytes
  have hml : c.maxLocals = 1 := hml0
  have hown : s.vm.findClass "com/example/fly_agaric/flyagaric/ChunkedQueue" = some m.cls := findClass_of_methodNamed Bd.named
  have hnm := (name_of_methodNamed Bd.named Bd.method).1
  have X0 : Stand p l e ({ frames := 1, cells := 1, slots := 2, locals := 12 } : Room) s m #[(.ref xq)] below meth c s₁ [] 0 0 := Stand.of_body Bd
  have e0 : s₁.heap = h0 := by rw [← hh, Bd.state]; rfl
  have N0 := Fr.nil n0
  have A0 : ∀ t, Steps p.tables e below (s₁.setTop (mkF m 0 #[.val (.ref xq)] [])) t → Steps p.tables e below (s₁.setTop (entryFrame m #[(.ref xq)] 1)) t := fun t k => castTop (own_ini_ef m xq) k
  have A280 : ∀ t, Steps p.tables e below (s₁.setTop (mkF m 1 #[.val (.ref xq)] [(.ref xq)])) t → Steps p.tables e below (s₁.setTop (entryFrame m #[(.ref xq)] 1)) t := by
    intro t k
    refine A0 _ ?_
    refine XS.aloadN X0.here hx rfl (hb hby di_0) rfl rfl ?_
    show Steps p.tables e below (s₁.setTop (mkF m 1 #[.val (.ref xq)] [(.ref xq)])) _
    exact k
  obtain ⟨T281, X281, e281, st281⟩ := initO X0 hx hZ hown (hw _ (List.mem_of_getElem? (i := 6) rfl)) (hw _ (List.mem_of_getElem? (i := 7) rfl)) (hw _ (List.mem_of_getElem? (i := 8) rfl)) e0 (g := (mkF m 1 #[.val (.ref xq)] [(.ref xq)])) rfl (by rw [hml]; rfl) rfl (hb hby di_1) (by decide) (W := 0) (by show 2 * 0 + _ ≤ _; exact Nat.le_of_eq rfl) (by decide)
  have A282 : ∀ t, Steps p.tables e below (T281.setTop (mkF m 6 #[.val (.ref xq)] [(.int (2 : Int32)), (.ref xq)])) t → Steps p.tables e below (s₁.setTop (entryFrame m #[(.ref xq)] 1)) t := by
    intro t k
    refine A280 _ ?_
    refine st281 _ ?_
    show Steps p.tables e below (T281.setTop (mkF m 4 #[.val (.ref xq)] [])) _
    refine XS.aloadN X281.here hx rfl (hb hby di_4) rfl rfl ?_
    show Steps p.tables e below (T281.setTop (mkF m 5 #[.val (.ref xq)] [(.ref xq)])) _
    refine XS.iconst X281.here hx rfl (hb hby di_5) ?_
    show Steps p.tables e below (T281.setTop (mkF m 6 #[.val (.ref xq)] [(.int (2 : Int32)), (.ref xq)])) _
    exact k
  obtain ⟨T283, h283, k283, X283, e283, E283, B283, Y283, O283, st283⟩ := newRE X281 hx hZ hown (hw _ (List.mem_of_getElem? (i := 9) rfl)) (hw _ (List.mem_of_getElem? (i := 10) rfl)) e281 (g := (mkF m 6 #[.val (.ref xq)] [(.int (2 : Int32)), (.ref xq)])) rfl (hb hby di_6) rfl (by decide) (cap := 2) (by decide) (by decide) (by decide) (by decide) (ad := "[Ljava/lang/Object;") rfl
  obtain ⟨b283, g283⟩ : ∃ z, z = h0.size := ⟨_, rfl⟩
  rw [← g283] at B283 Y283 st283
  have neq : b283 ≠ xq := Ne.symm (Nat.ne_of_lt (Nat.lt_of_lt_of_le E0.lt (Nat.le_of_eq g283.symm)))
  have ge284 := Nat.le_trans Z0 (Nat.le_of_eq g283.symm)
  have Ol285 := O0.ext E283
  have Ex286 := E0.ext E283
  have Fl287 := FH.ext E283
  have Fl288 := FA.ext E283
  have Fl289 := FT.ext E283
  have Fl290 := FB.ext E283
  have Zs291 := Nat.le_trans Z0 E283.1
  have KB : own_Chk Z h283 xq n0 b283 2 (newA k283 (.object "java/lang/Object") (2 : Int32)) := ⟨B283, sz_new _ _ _, O283, Y283, neq, ge284, by omega, by omega⟩
  have A292 : ∀ t, Steps p.tables e below (T283.setTop (mkF m 9 #[.val (.ref xq)] [(.ref b283), (.ref xq)])) t → Steps p.tables e below (s₁.setTop (entryFrame m #[(.ref xq)] 1)) t := by
    intro t k
    refine A282 _ ?_
    refine st283 _ ?_
    show Steps p.tables e below (T283.setTop (mkF m 9 #[.val (.ref xq)] [(.ref b283), (.ref xq)])) _
    exact k
  obtain ⟨T293, h293, X293, e293, W293, st293⟩ := putF X283 hx hZ hown (host := "") (Or.inl (hw _ (List.mem_of_getElem? (i := 11) rfl))) Via.refl e283 Fl287 Ex286 (Or.inl (hw _ (List.mem_of_getElem? (i := 12) rfl))) (hw _ (List.mem_of_getElem? (i := 1) rfl)) (ty := (.array (.object "java/lang/Object"))) (by decide) rfl rfl (g := (mkF m 9 #[.val (.ref xq)] [(.ref b283), (.ref xq)])) rfl rfl (hb hby di_9)
  have Ex294 := Ex286.wr W293
  have Fl295 := Fl287.same W293
  have Fl296 := Fl288.other W293 (Or.inr (slot_ne (Or.inl (hw _ (List.mem_of_getElem? (i := 21) rfl))) (Or.inl (hw _ (List.mem_of_getElem? (i := 12) rfl))) (by decide) (t := .int) (t' := (.array (.object "java/lang/Object"))) (by decide) (by decide)))
  have Fl297 := Fl289.other W293 (Or.inr (slot_ne (Or.inl (hw _ (List.mem_of_getElem? (i := 14) rfl))) (Or.inl (hw _ (List.mem_of_getElem? (i := 12) rfl))) (by decide) (t := (.array (.object "java/lang/Object"))) (t' := (.array (.object "java/lang/Object"))) (by decide) (by decide)))
  have Fl298 := Fl290.other W293 (Or.inr (slot_ne (Or.inl (hw _ (List.mem_of_getElem? (i := 23) rfl))) (Or.inl (hw _ (List.mem_of_getElem? (i := 12) rfl))) (by decide) (t := .int) (t' := (.array (.object "java/lang/Object"))) (by decide) (by decide)))
  have Ar299 := KB.other W293 neq
  have Zs300 := Nat.le_trans Zs291 (Keep.of_wr W293).1
  have Nf301 := Fr.snoc X293 N0 gq
  have Ol302 := Ol285.wr W293 gq
  have A303 : ∀ t, Steps p.tables e below (T293.setTop (mkF m 14 #[.val (.ref xq)] [(.ref xq), (.ref xq)])) t → Steps p.tables e below (s₁.setTop (entryFrame m #[(.ref xq)] 1)) t := by
    intro t k
    refine A292 _ ?_
    refine st293 _ ?_
    show Steps p.tables e below (T293.setTop (mkF m 12 #[.val (.ref xq)] [])) _
    refine XS.aloadN X293.here hx rfl (hb hby di_12) rfl rfl ?_
    show Steps p.tables e below (T293.setTop (mkF m 13 #[.val (.ref xq)] [(.ref xq)])) _
    refine XS.aloadN X293.here hx rfl (hb hby di_13) rfl rfl ?_
    show Steps p.tables e below (T293.setTop (mkF m 14 #[.val (.ref xq)] [(.ref xq), (.ref xq)])) _
    exact k
  obtain ⟨T304, X304, e304, st304⟩ := getF X293 hx hZ hown (host := "") (Or.inl (hw _ (List.mem_of_getElem? (i := 11) rfl))) Via.refl e293 Fl295 (g := (mkF m 14 #[.val (.ref xq)] [(.ref xq), (.ref xq)])) rfl rfl (hb hby di_14)
  have A305 : ∀ t, Steps p.tables e below (T304.setTop (mkF m 17 #[.val (.ref xq)] [(.ref b283), (.ref xq)])) t → Steps p.tables e below (s₁.setTop (entryFrame m #[(.ref xq)] 1)) t := by
    intro t k
    refine A303 _ ?_
    refine st304 _ ?_
    show Steps p.tables e below (T304.setTop (mkF m 17 #[.val (.ref xq)] [(.ref b283), (.ref xq)])) _
    exact k
  obtain ⟨T306, h306, X306, e306, W306, st306⟩ := putF X304 hx hZ hown (host := "") (Or.inl (hw _ (List.mem_of_getElem? (i := 13) rfl))) Via.refl e304 Fl297 Ex294 (Or.inl (hw _ (List.mem_of_getElem? (i := 14) rfl))) (hw _ (List.mem_of_getElem? (i := 1) rfl)) (ty := (.array (.object "java/lang/Object"))) (by decide) rfl rfl (g := (mkF m 17 #[.val (.ref xq)] [(.ref b283), (.ref xq)])) rfl rfl (hb hby di_17)
  have Ex307 := Ex294.wr W306
  have Fl308 := Fl295.other W306 (Or.inr (slot_ne (Or.inl (hw _ (List.mem_of_getElem? (i := 12) rfl))) (Or.inl (hw _ (List.mem_of_getElem? (i := 14) rfl))) (by decide) (t := (.array (.object "java/lang/Object"))) (t' := (.array (.object "java/lang/Object"))) (by decide) (by decide)))
  have Fl309 := Fl296.other W306 (Or.inr (slot_ne (Or.inl (hw _ (List.mem_of_getElem? (i := 21) rfl))) (Or.inl (hw _ (List.mem_of_getElem? (i := 14) rfl))) (by decide) (t := .int) (t' := (.array (.object "java/lang/Object"))) (by decide) (by decide)))
  have Fl310 := Fl297.same W306
  have Fl311 := Fl298.other W306 (Or.inr (slot_ne (Or.inl (hw _ (List.mem_of_getElem? (i := 23) rfl))) (Or.inl (hw _ (List.mem_of_getElem? (i := 14) rfl))) (by decide) (t := .int) (t' := (.array (.object "java/lang/Object"))) (by decide) (by decide)))
  have Ar312 := Ar299.other W306 neq
  have Zs313 := Nat.le_trans Zs300 (Keep.of_wr W306).1
  have Nf314 := Fr.snoc X306 Nf301 gq
  have Ol315 := Ol302.wr W306 gq
  have A316 : ∀ t, Steps p.tables e below (T306.setTop (mkF m 20 #[.val (.ref xq)] [])) t → Steps p.tables e below (s₁.setTop (entryFrame m #[(.ref xq)] 1)) t := by
    intro t k
    refine A305 _ ?_
    refine st306 _ ?_
    show Steps p.tables e below (T306.setTop (mkF m 20 #[.val (.ref xq)] [])) _
    exact k
  obtain ⟨fs, hr, hrun, hended, hW, hsame⟩ := X306.leave (v := none) (fun _ => rfl)
  refine ⟨_, _, A316 _ ?_, hrun, hended, _, _, rfl, ?_, ⟨_, rfl⟩, hW, hsame.mono (by decide) (by decide)⟩
  · exact X306.returnOut hx Bd.returns (hb hby di_20) hr
  · show own_ini_Q Z xq h0 n0 _ T306.heap _
    rw [e306]
    exact ⟨rfl, Nf314, Zs313, Ol315, [], 0, b283, 2, b283, 2, 0, ⟨Ex307, Fl308, Fl309, Fl310, Fl311, ⟨rfl, rfl, _, Ar312, fun i h1 h2 => absurd h2 (Nat.not_lt_zero _)⟩, ⟨fun _ => ⟨Nat.le_refl _, fun _ => rfl⟩, fun y => absurd rfl y, by omega, Or.inl ⟨rfl, Nat.le_refl _⟩⟩, Nat.le_refl _⟩, rfl⟩
def own_stp_Q (Z : State) (xq : Addr) (k : Nat) (h0 : Heap) (n0 : Nat) (v : Option Value) (h : Heap) (L : List Loc) : Prop := ∃ n : Nat, v = some (.int (Nat.toInt32 n)) ∧ Fr n0 L ∧ n0 ≤ h.size ∧ Old Z n0 h ∧ own_QI Z h xq n0 (k + 1) n
theorem own_stp_ef (m : MethodId) (x0 : Addr) (x1 : Int32) (x2 : Int32) (x3 : Int32) : entryFrame m #[(.ref x0), (.int x1), (.int x2), (.int x3)] 6 = mkF m 0 #[.val (.ref x0), .val (.int x1), .val (.int x2), .val (.int x3), .unset, .unset] [] := by first | (simp [entryFrame, mkF, argsToLocals, Value.category]; done) | rfl
set_option maxRecDepth 65536 in
set_option maxHeartbeats 40000000 in
theorem own_stp (l : Launch) (Z : State) (a0 : Array Value) (hw : ∀ d ∈ tables_1, d.before a0 Z = true) (ws : List Jvm.Cond) (xq : Addr) (xo xi : Int32) (k xn : Nat) (vc : Addr) (cc : Cell) (h0 : Heap) (n0 : Nat) (Z0 : n0 ≤ h0.size) (SH : Sta Z Z.heap "java/lang/Integer$IntegerCache" "high" "I" (.int (127 : Int32))) (SC : Sta Z Z.heap "java/lang/Integer$IntegerCache" "cache" "[Ljava/lang/Integer;" (.ref vc)) (AC : Arr Z Z.heap vc cc (.object "java/lang/Integer")) (sz : cc.slots.size = 256) (hel : ∀ j : Int32, ¬ (j < 0 ∨ cc.slots.size ≤ j.toNatClampNeg) → ∃ r : Addr, cc.slots[j.toNatClampNeg]? = some (.ref r) ∧ Exa Z Z.heap r "java/lang/Integer") (O0 : Old Z n0 h0) (QI0 : own_QI Z h0 xq n0 k xn) (hk9 : k ≤ 9) (gq : n0 ≤ xq) (hlo : ¬ xi < (-128 : Int32)) (hhi : ¬ (127 : Int32) < xi) :
    MetFree l (⟨"com/example/fly_agaric/flyagaric/ChunkedQueueIsEmptyPinLaw", "step", "(Lcom/example/fly_agaric/flyagaric/ChunkedQueue;III)I"⟩ : MethodName) (head1 (Jvm.Cond.code (⟨"com/example/fly_agaric/flyagaric/ChunkedQueueIsEmptyPinLaw", "step", "(Lcom/example/fly_agaric/flyagaric/ChunkedQueue;III)I"⟩ : MethodName) method_2_code 6 (some .int) :: ws) ({ frames := 3, cells := 1, slots := 8, locals := 37 } : Room)) (fun a U => a = #[(.ref xq), (.int xo), (.int xi), (.int (Nat.toInt32 xn))] ∧ Z.Warmed39 U.vm ∧ U.heap = h0) (fun _ _ _ _ _ => True) (fun _ U o U' => ∃ v L, o = .returned v ∧ own_stp_Q Z xq k h0 n0 v U'.heap L ∧ FrameEnd U o U' L ({ frames := 3, cells := 1, slots := 8, locals := 37 } : Room).cells ({ frames := 3, cells := 1, slots := 8, locals := 37 } : Room).slots) := by
  refine MetFree.of_bodySF (plainFor_of_name own_pn2) hisR ?_
  intro p e s m args below meth c s₁ Bd hml0 hP hK
  obtain ⟨rfl, hZ, hh⟩ := hP
  have hx := Bd.exec
  have hby := Bd.bytes
  have hml : c.maxLocals = 6 := hml0
  have hown : s.vm.findClass "com/example/fly_agaric/flyagaric/ChunkedQueueIsEmptyPinLaw" = some m.cls := findClass_of_methodNamed Bd.named
  have hnm := (name_of_methodNamed Bd.named Bd.method).1
  have X0 : Stand p l e ({ frames := 3, cells := 1, slots := 8, locals := 37 } : Room) s m #[(.ref xq), (.int xo), (.int xi), (.int (Nat.toInt32 xn))] below meth c s₁ [] 0 0 := Stand.of_body Bd
  have e0 : s₁.heap = h0 := by rw [← hh, Bd.state]; rfl
  have N0 := Fr.nil n0
  have A0 : ∀ t, Steps p.tables e below (s₁.setTop (mkF m 0 #[.val (.ref xq), .val (.int xo), .val (.int xi), .val (.int (Nat.toInt32 xn)), .unset, .unset] [])) t → Steps p.tables e below (s₁.setTop (entryFrame m #[(.ref xq), (.int xo), (.int xi), (.int (Nat.toInt32 xn))] 6)) t := fun t k => castTop (own_stp_ef m xq xo xi (Nat.toInt32 xn)) k
  obtain ⟨xr, lo, xh, sz', xt, ts, ta, QC, hxn⟩ := QI0
  have hbd := own_bnd QC
  have hcnt := QC.2.2.2.2.2.2.2
  have hxn31 : xn + 1 < 2 ^ 31 := by omega
  have hnn := own_nn (k := xn) (by omega)
  have A317 : ∀ t, Steps p.tables e below (s₁.setTop (mkF m 11 #[.val (.ref xq), .val (.int xo), .val (.int xi), .val (.int (Nat.toInt32 xn)), .unset, .unset] [(.int (((xo.toUInt32 >>> (xi &&& 31).toUInt32).toInt32) &&& (1 : Int32)))])) t → Steps p.tables e below (s₁.setTop (entryFrame m #[(.ref xq), (.int xo), (.int xi), (.int (Nat.toInt32 xn))] 6)) t := by
    intro t k
    refine A0 _ ?_
    refine XS.iloadN X0.here hx rfl (hb hby ds_0) rfl ?_
    show Steps p.tables e below (s₁.setTop (mkF m 1 #[.val (.ref xq), .val (.int xo), .val (.int xi), .val (.int (Nat.toInt32 xn)), .unset, .unset] [(.int (Nat.toInt32 xn))])) _
    refine XS.ifYes X0.here hx rfl (pc0 := 1) (pc' := 6) rfl (hb hby ds_1) rfl ((if0 _ _).trans (flt hnn).2.1) (by decide) (by decide) ?_
    show Steps p.tables e below (s₁.setTop (mkF m 6 #[.val (.ref xq), .val (.int xo), .val (.int xi), .val (.int (Nat.toInt32 xn)), .unset, .unset] [])) _
    refine XS.iloadN X0.here hx rfl (hb hby ds_6) rfl ?_
    show Steps p.tables e below (s₁.setTop (mkF m 7 #[.val (.ref xq), .val (.int xo), .val (.int xi), .val (.int (Nat.toInt32 xn)), .unset, .unset] [(.int xo)])) _
    refine XS.iloadN X0.here hx rfl (hb hby ds_7) rfl ?_
    show Steps p.tables e below (s₁.setTop (mkF m 8 #[.val (.ref xq), .val (.int xo), .val (.int xi), .val (.int (Nat.toInt32 xn)), .unset, .unset] [(.int xi), (.int xo)])) _
    refine XS.iushr X0.here hx rfl (hb hby ds_8) rfl ?_
    show Steps p.tables e below (s₁.setTop (mkF m 9 #[.val (.ref xq), .val (.int xo), .val (.int xi), .val (.int (Nat.toInt32 xn)), .unset, .unset] [(.int ((xo.toUInt32 >>> (xi &&& 31).toUInt32).toInt32))])) _
    refine XS.iconst X0.here hx rfl (hb hby ds_9) ?_
    show Steps p.tables e below (s₁.setTop (mkF m 10 #[.val (.ref xq), .val (.int xo), .val (.int xi), .val (.int (Nat.toInt32 xn)), .unset, .unset] [(.int (1 : Int32)), (.int ((xo.toUInt32 >>> (xi &&& 31).toUInt32).toInt32))])) _
    refine XS.iand X0.here hx rfl (hb hby ds_10) rfl ?_
    show Steps p.tables e below (s₁.setTop (mkF m 11 #[.val (.ref xq), .val (.int xo), .val (.int xi), .val (.int (Nat.toInt32 xn)), .unset, .unset] [(.int (((xo.toUInt32 >>> (xi &&& 31).toUInt32).toInt32) &&& (1 : Int32)))])) _
    exact k
  by_cases hbit : (((xo.toUInt32 >>> (xi &&& 31).toUInt32).toInt32) &&& (1 : Int32)) = (0 : Int32)
  · have A318 : ∀ t, Steps p.tables e below (s₁.setTop (mkF m 30 #[.val (.ref xq), .val (.int xo), .val (.int xi), .val (.int (Nat.toInt32 xn)), .unset, .unset] [])) t → Steps p.tables e below (s₁.setTop (entryFrame m #[(.ref xq), (.int xo), (.int xi), (.int (Nat.toInt32 xn))] 6)) t := by
      intro t k
      refine A317 _ ?_
      refine XS.ifYes X0.here hx rfl (pc0 := 11) (pc' := 30) rfl (hb hby ds_11) rfl ((if0 _ _).trans (teq hbit).1) (by decide) (by decide) ?_
      show Steps p.tables e below (s₁.setTop (mkF m 30 #[.val (.ref xq), .val (.int xo), .val (.int xi), .val (.int (Nat.toInt32 xn)), .unset, .unset] [])) _
      exact k
    rcases Nat.eq_zero_or_pos xn with hz | hz
    · have hem := (own_empty QC).mp (by omega)
      obtain ⟨e1, e2⟩ := hem
      have FT' := QC.2.2.2.1
      have FB' := QC.2.2.2.2.1
      rw [← e1] at FT'
      rw [← e2] at FB'
      have A319 : ∀ t, Steps p.tables e below (s₁.setTop (mkF m 31 #[.val (.ref xq), .val (.int xo), .val (.int xi), .val (.int (Nat.toInt32 xn)), .unset, .unset] [(.ref xq)])) t → Steps p.tables e below (s₁.setTop (entryFrame m #[(.ref xq), (.int xo), (.int xi), (.int (Nat.toInt32 xn))] 6)) t := by
        intro t k
        refine A318 _ ?_
        refine XS.aloadN X0.here hx rfl (hb hby ds_30) rfl rfl ?_
        show Steps p.tables e below (s₁.setTop (mkF m 31 #[.val (.ref xq), .val (.int xo), .val (.int xi), .val (.int (Nat.toInt32 xn)), .unset, .unset] [(.ref xq)])) _
        exact k
      obtain ⟨cq320, kq320, q320a, q320b, q320c⟩ := isOf hZ e0 QC.1
      obtain ⟨_, _, ⟨T320, L320, k320, n320⟩, -, X320, ⟨Lc320, hQ320, l320, y320, z320⟩, st320⟩ := X0.virtualBack hx (y := (⟨"com/example/fly_agaric/flyagaric/ChunkedQueue", "poll", "()Ljava/lang/Object;"⟩ : MethodName)) (z := (⟨"com/example/fly_agaric/flyagaric/ChunkedQueue", "poll", "()Ljava/lang/Object;"⟩ : MethodName)) hown (mvT hZ (hw _ (List.mem_of_getElem? (i := 28) rfl))) (mvT hZ (hw _ (List.mem_of_getElem? (i := 29) rfl))) (notFace_of_selects (args := #[]) (mvT hZ (hw _ (List.mem_of_getElem? (i := 31) rfl)))) (mvT hZ (hw _ (List.mem_of_getElem? (i := 31) rfl))) (mvT hZ (hw _ (List.mem_of_getElem? (i := 30) rfl))) (by decide) (backOf (W := 0) (own_po0 l Z a0 hw [] xq xh (Nat.toInt32 lo) h0 n0 Z0 QC.1 QC.2.1 QC.2.2.1 FT' FB') hZ (hw _ (List.mem_of_getElem? (i := 32) rfl)) (hw _ (List.mem_of_getElem? (i := 2) rfl)) (by decide) (by decide)) q320a q320c (g := (mkF m 31 #[.val (.ref xq), .val (.int xo), .val (.int xi), .val (.int (Nat.toInt32 xn)), .unset, .unset] [(.ref xq)])) rfl (by rw [hml]; rfl) (Steps.refl _) (argsL := []) (rest := []) (lenOf own_pd1 rfl) rfl (by show 2 * 0 + _ ≤ _; exact Nat.le_of_eq rfl) (hb hby ds_31) (fun _ _ => ⟨rfl, e0, (by decide : 0 + 0 ≤ _), (by decide : 0 + 0 ≤ _)⟩)
      dsimp only [Pt.U, Pt.locs, Pt.cells, Pt.slots] at X320 l320 y320 z320 st320 hQ320
      subst l320 y320 z320
      obtain ⟨rfl, Nq320, eh320⟩ := hQ320
      have Nf321 := Fr.app N0 Nq320
      have A322 : ∀ t, Steps p.tables e below (T320.setTop (mkF m 37 #[.val (.ref xq), .val (.int xo), .val (.int xi), .val (.int (Nat.toInt32 xn)), .unset, .unset] [.null])) t → Steps p.tables e below (s₁.setTop (entryFrame m #[(.ref xq), (.int xo), (.int xi), (.int (Nat.toInt32 xn))] 6)) t := by
        intro t k
        refine A319 _ ?_
        refine st320.trans ?_
        show Steps p.tables e below (T320.setTop (mkF m 34 #[.val (.ref xq), .val (.int xo), .val (.int xi), .val (.int (Nat.toInt32 xn)), .unset, .unset] [.null])) _
        refine X320.checkcastNull hx (g := (mkF m 34 #[.val (.ref xq), .val (.int xo), .val (.int xi), .val (.int (Nat.toInt32 xn)), .unset, .unset] [.null])) rfl rfl (hb hby ds_34) _ ?_
        show Steps p.tables e below (T320.setTop (mkF m 37 #[.val (.ref xq), .val (.int xo), .val (.int xi), .val (.int (Nat.toInt32 xn)), .unset, .unset] [.null])) _
        exact k
      have hz0 : (Nat.toInt32 xn) = (0 : Int32) := by rw [hz]; rfl
      have A323 : ∀ t, Steps p.tables e below (T320.setTop (mkF m 77 #[.val (.ref xq), .val (.int xo), .val (.int xi), .val (.int (Nat.toInt32 xn)), .val (.int (0 : Int32)), .val .null] [(.ref xq)])) t → Steps p.tables e below (s₁.setTop (entryFrame m #[(.ref xq), (.int xo), (.int xi), (.int (Nat.toInt32 xn))] 6)) t := by
        intro t k
        refine A322 _ ?_
        refine XS.astore X320.here hx rfl (hb hby ds_37) rfl rfl (l' := #[.val (.ref xq), .val (.int xo), .val (.int xi), .val (.int (Nat.toInt32 xn)), .unset, .val .null]) rfl ?_
        show Steps p.tables e below (T320.setTop (mkF m 39 #[.val (.ref xq), .val (.int xo), .val (.int xi), .val (.int (Nat.toInt32 xn)), .unset, .val .null] [])) _
        refine XS.aload X320.here hx rfl (hb hby ds_39) rfl rfl ?_
        show Steps p.tables e below (T320.setTop (mkF m 41 #[.val (.ref xq), .val (.int xo), .val (.int xi), .val (.int (Nat.toInt32 xn)), .unset, .val .null] [.null])) _
        refine XS.ifnonnullNo X320.here hx rfl (hb hby ds_41) rfl ?_
        show Steps p.tables e below (T320.setTop (mkF m 44 #[.val (.ref xq), .val (.int xo), .val (.int xi), .val (.int (Nat.toInt32 xn)), .unset, .val .null] [])) _
        refine XS.iconst X320.here hx rfl (hb hby ds_44) ?_
        show Steps p.tables e below (T320.setTop (mkF m 45 #[.val (.ref xq), .val (.int xo), .val (.int xi), .val (.int (Nat.toInt32 xn)), .unset, .val .null] [(.int (1 : Int32))])) _
        refine XS.goto X320.here hx rfl (pc0 := 45) (pc' := 49) rfl (hb hby ds_45) (by decide) (by decide) ?_
        show Steps p.tables e below (T320.setTop (mkF m 49 #[.val (.ref xq), .val (.int xo), .val (.int xi), .val (.int (Nat.toInt32 xn)), .unset, .val .null] [(.int (1 : Int32))])) _
        refine XS.iloadN X320.here hx rfl (hb hby ds_49) rfl ?_
        show Steps p.tables e below (T320.setTop (mkF m 50 #[.val (.ref xq), .val (.int xo), .val (.int xi), .val (.int (Nat.toInt32 xn)), .unset, .val .null] [(.int (Nat.toInt32 xn)), (.int (1 : Int32))])) _
        refine XS.ifNo X320.here hx rfl (hb hby ds_50) rfl ((if0 _ _).trans (teq hz0).2) ?_
        show Steps p.tables e below (T320.setTop (mkF m 53 #[.val (.ref xq), .val (.int xo), .val (.int xi), .val (.int (Nat.toInt32 xn)), .unset, .val .null] [(.int (1 : Int32))])) _
        refine XS.iconst X320.here hx rfl (hb hby ds_53) ?_
        show Steps p.tables e below (T320.setTop (mkF m 54 #[.val (.ref xq), .val (.int xo), .val (.int xi), .val (.int (Nat.toInt32 xn)), .unset, .val .null] [(.int (1 : Int32)), (.int (1 : Int32))])) _
        refine XS.goto X320.here hx rfl (pc0 := 54) (pc' := 58) rfl (hb hby ds_54) (by decide) (by decide) ?_
        show Steps p.tables e below (T320.setTop (mkF m 58 #[.val (.ref xq), .val (.int xo), .val (.int xi), .val (.int (Nat.toInt32 xn)), .unset, .val .null] [(.int (1 : Int32)), (.int (1 : Int32))])) _
        refine XS.icmpYes X320.here hx rfl (pc0 := 58) (pc' := 63) rfl (hb hby ds_58) rfl (teq (by decide : ((1 : Int32) = (1 : Int32)))).1 (by decide) (by decide) ?_
        show Steps p.tables e below (T320.setTop (mkF m 63 #[.val (.ref xq), .val (.int xo), .val (.int xi), .val (.int (Nat.toInt32 xn)), .unset, .val .null] [])) _
        refine XS.iloadN X320.here hx rfl (hb hby ds_63) rfl ?_
        show Steps p.tables e below (T320.setTop (mkF m 64 #[.val (.ref xq), .val (.int xo), .val (.int xi), .val (.int (Nat.toInt32 xn)), .unset, .val .null] [(.int (Nat.toInt32 xn))])) _
        refine XS.ifNo X320.here hx rfl (hb hby ds_64) rfl ((if0 _ _).trans (teq hz0).2) ?_
        show Steps p.tables e below (T320.setTop (mkF m 67 #[.val (.ref xq), .val (.int xo), .val (.int xi), .val (.int (Nat.toInt32 xn)), .unset, .val .null] [])) _
        refine XS.iconst X320.here hx rfl (hb hby ds_67) ?_
        show Steps p.tables e below (T320.setTop (mkF m 68 #[.val (.ref xq), .val (.int xo), .val (.int xi), .val (.int (Nat.toInt32 xn)), .unset, .val .null] [(.int (0 : Int32))])) _
        refine XS.goto X320.here hx rfl (pc0 := 68) (pc' := 74) rfl (hb hby ds_68) (by decide) (by decide) ?_
        show Steps p.tables e below (T320.setTop (mkF m 74 #[.val (.ref xq), .val (.int xo), .val (.int xi), .val (.int (Nat.toInt32 xn)), .unset, .val .null] [(.int (0 : Int32))])) _
        refine XS.istore X320.here hx rfl (hb hby ds_74) rfl (l' := #[.val (.ref xq), .val (.int xo), .val (.int xi), .val (.int (Nat.toInt32 xn)), .val (.int (0 : Int32)), .val .null]) rfl ?_
        show Steps p.tables e below (T320.setTop (mkF m 76 #[.val (.ref xq), .val (.int xo), .val (.int xi), .val (.int (Nat.toInt32 xn)), .val (.int (0 : Int32)), .val .null] [])) _
        refine XS.aloadN X320.here hx rfl (hb hby ds_76) rfl rfl ?_
        show Steps p.tables e below (T320.setTop (mkF m 77 #[.val (.ref xq), .val (.int xo), .val (.int xi), .val (.int (Nat.toInt32 xn)), .val (.int (0 : Int32)), .val .null] [(.ref xq)])) _
        exact k
      have QI1 : own_QI Z h0 xq n0 (k + 1) 0 := ⟨xr, lo, xh, sz', xt, ts, ta, own_more QC, by omega⟩
      obtain ⟨yr, yl, yh, ys, yt, yts, yta, QD, hyn⟩ := QI1
      obtain ⟨cq324, kq324, q324a, q324b, q324c⟩ := isOf hZ eh320 QD.1
      obtain ⟨_, _, ⟨T324, L324, k324, n324⟩, -, X324, ⟨Lc324, hQ324, l324, y324, z324⟩, st324⟩ := X320.virtualBack hx (y := (⟨"com/example/fly_agaric/flyagaric/ChunkedQueue", "isEmpty", "()Z"⟩ : MethodName)) (z := (⟨"com/example/fly_agaric/flyagaric/ChunkedQueue", "isEmpty", "()Z"⟩ : MethodName)) hown (mvT hZ (hw _ (List.mem_of_getElem? (i := 15) rfl))) (mvT hZ (hw _ (List.mem_of_getElem? (i := 16) rfl))) (notFace_of_selects (args := #[]) (mvT hZ (hw _ (List.mem_of_getElem? (i := 18) rfl)))) (mvT hZ (hw _ (List.mem_of_getElem? (i := 18) rfl))) (mvT hZ (hw _ (List.mem_of_getElem? (i := 17) rfl))) (by decide) (backOf (W := 0) (own_isE l Z a0 hw [] xq yh yt (Nat.toInt32 yl) (Nat.toInt32 yta) h0 n0 Z0 QD.2.1 QD.2.2.1 QD.2.2.2.1 QD.2.2.2.2.1) hZ (hw _ (List.mem_of_getElem? (i := 19) rfl)) (hw _ (List.mem_of_getElem? (i := 2) rfl)) (by decide) (by decide)) q324a q324c (g := (mkF m 77 #[.val (.ref xq), .val (.int xo), .val (.int xi), .val (.int (Nat.toInt32 xn)), .val (.int (0 : Int32)), .val .null] [(.ref xq)])) rfl (by rw [hml]; rfl) (Steps.refl _) (argsL := []) (rest := []) (lenOf own_pd0 rfl) rfl (by show 2 * 0 + _ ≤ _; exact Nat.le_of_eq rfl) (hb hby ds_77) (fun _ _ => ⟨rfl, eh320, (by decide : 0 + 0 ≤ _), (by decide : 0 + 0 ≤ _)⟩)
      dsimp only [Pt.U, Pt.locs, Pt.cells, Pt.slots] at X324 l324 y324 z324 st324 hQ324
      subst l324 y324 z324
      obtain ⟨rfl, Nq324, eh324⟩ := hQ324
      have Nf325 := Fr.app Nf321 Nq324
      have A326 : ∀ t, Steps p.tables e below (T324.setTop (mkF m 80 #[.val (.ref xq), .val (.int xo), .val (.int xi), .val (.int (Nat.toInt32 xn)), .val (.int (0 : Int32)), .val .null] [(.int (if yh = yt then (if (Nat.toInt32 yl) = (Nat.toInt32 yta) then (1 : Int32) else 0) else 0))])) t → Steps p.tables e below (s₁.setTop (entryFrame m #[(.ref xq), (.int xo), (.int xi), (.int (Nat.toInt32 xn))] 6)) t := by
        intro t k
        refine A323 _ ?_
        refine st324.trans ?_
        show Steps p.tables e below (T324.setTop (mkF m 80 #[.val (.ref xq), .val (.int xo), .val (.int xi), .val (.int (Nat.toInt32 xn)), .val (.int (0 : Int32)), .val .null] [(.int (if yh = yt then (if (Nat.toInt32 yl) = (Nat.toInt32 yta) then (1 : Int32) else 0) else 0))])) _
        exact k
      have hw327 : (if yh = yt then (if (Nat.toInt32 yl) = (Nat.toInt32 yta) then (1 : Int32) else 0) else 0) = (1 : Int32) := by rw [own_isEv QD, ← hyn]; rfl
      rw [hw327] at A326
      have A328 : ∀ t, Steps p.tables e below (T324.setTop (mkF m 97 #[.val (.ref xq), .val (.int xo), .val (.int xi), .val (.int (Nat.toInt32 xn)), .val (.int (0 : Int32)), .val .null] [(.int (0 : Int32))])) t → Steps p.tables e below (s₁.setTop (entryFrame m #[(.ref xq), (.int xo), (.int xi), (.int (Nat.toInt32 xn))] 6)) t := by
        intro t k
        refine A326 _ ?_
        refine XS.iload X324.here hx rfl (hb hby ds_80) rfl ?_
        show Steps p.tables e below (T324.setTop (mkF m 82 #[.val (.ref xq), .val (.int xo), .val (.int xi), .val (.int (Nat.toInt32 xn)), .val (.int (0 : Int32)), .val .null] [(.int (0 : Int32)), (.int (1 : Int32))])) _
        refine XS.ifNo X324.here hx rfl (hb hby ds_82) rfl ((if0 _ _).trans (teq (by decide : ((0 : Int32) = (0 : Int32)))).2) ?_
        show Steps p.tables e below (T324.setTop (mkF m 85 #[.val (.ref xq), .val (.int xo), .val (.int xi), .val (.int (Nat.toInt32 xn)), .val (.int (0 : Int32)), .val .null] [(.int (1 : Int32))])) _
        refine XS.iconst X324.here hx rfl (hb hby ds_85) ?_
        show Steps p.tables e below (T324.setTop (mkF m 86 #[.val (.ref xq), .val (.int xo), .val (.int xi), .val (.int (Nat.toInt32 xn)), .val (.int (0 : Int32)), .val .null] [(.int (1 : Int32)), (.int (1 : Int32))])) _
        refine XS.goto X324.here hx rfl (pc0 := 86) (pc' := 90) rfl (hb hby ds_86) (by decide) (by decide) ?_
        show Steps p.tables e below (T324.setTop (mkF m 90 #[.val (.ref xq), .val (.int xo), .val (.int xi), .val (.int (Nat.toInt32 xn)), .val (.int (0 : Int32)), .val .null] [(.int (1 : Int32)), (.int (1 : Int32))])) _
        refine XS.icmpYes X324.here hx rfl (pc0 := 90) (pc' := 95) rfl (hb hby ds_90) rfl (teq (by decide : ((1 : Int32) = (1 : Int32)))).1 (by decide) (by decide) ?_
        show Steps p.tables e below (T324.setTop (mkF m 95 #[.val (.ref xq), .val (.int xo), .val (.int xi), .val (.int (Nat.toInt32 xn)), .val (.int (0 : Int32)), .val .null] [])) _
        refine XS.iload X324.here hx rfl (hb hby ds_95) rfl ?_
        show Steps p.tables e below (T324.setTop (mkF m 97 #[.val (.ref xq), .val (.int xo), .val (.int xi), .val (.int (Nat.toInt32 xn)), .val (.int (0 : Int32)), .val .null] [(.int (0 : Int32))])) _
        exact k
      obtain ⟨fs, hr, hrun, hended, hW, hsame⟩ := X324.leave (v := some (.int (0 : Int32))) (fun h => by rw [Bd.returns] at h; cases h)
      refine ⟨_, _, A328 _ ?_, hrun, hended, _, _, rfl, ?_, ⟨_, rfl⟩, hW, hsame.mono (by decide) (by decide)⟩
      · exact retOut X324 hx Bd.returns rfl (Or.inl ⟨rfl, Or.inl rfl, _, rfl⟩) (hb hby ds_97) hr
      · show own_stp_Q Z xq k h0 n0 _ T324.heap _
        rw [eh324]
        exact ⟨0, rfl, Nf325, Z0, O0, yr, yl, yh, ys, yt, yts, yta, QD, hyn⟩
    · have A329 : ∀ t, Steps p.tables e below (s₁.setTop (mkF m 31 #[.val (.ref xq), .val (.int xo), .val (.int xi), .val (.int (Nat.toInt32 xn)), .unset, .unset] [(.ref xq)])) t → Steps p.tables e below (s₁.setTop (entryFrame m #[(.ref xq), (.int xo), (.int xi), (.int (Nat.toInt32 xn))] 6)) t := by
        intro t k
        refine A318 _ ?_
        refine XS.aloadN X0.here hx rfl (hb hby ds_30) rfl rfl ?_
        show Steps p.tables e below (s₁.setTop (mkF m 31 #[.val (.ref xq), .val (.int xo), .val (.int xi), .val (.int (Nat.toInt32 xn)), .unset, .unset] [(.ref xq)])) _
        exact k
      obtain ⟨cq330, kq330, q330a, q330b, q330c⟩ := isOf hZ e0 QC.1
      obtain ⟨_, _, ⟨T330, L330, k330, n330⟩, -, X330, ⟨Lc330, hQ330, l330, y330, z330⟩, st330⟩ := X0.virtualBack hx (y := (⟨"com/example/fly_agaric/flyagaric/ChunkedQueue", "poll", "()Ljava/lang/Object;"⟩ : MethodName)) (z := (⟨"com/example/fly_agaric/flyagaric/ChunkedQueue", "poll", "()Ljava/lang/Object;"⟩ : MethodName)) hown (mvT hZ (hw _ (List.mem_of_getElem? (i := 28) rfl))) (mvT hZ (hw _ (List.mem_of_getElem? (i := 29) rfl))) (notFace_of_selects (args := #[]) (mvT hZ (hw _ (List.mem_of_getElem? (i := 31) rfl)))) (mvT hZ (hw _ (List.mem_of_getElem? (i := 31) rfl))) (mvT hZ (hw _ (List.mem_of_getElem? (i := 30) rfl))) (by decide) (backOf (W := 0) (own_poS l Z a0 hw [] xq k xr lo xh sz' xt ts ta h0 n0 Z0 QC (by omega) gq O0) hZ (hw _ (List.mem_of_getElem? (i := 32) rfl)) (hw _ (List.mem_of_getElem? (i := 2) rfl)) (by decide) (by decide)) q330a q330c (g := (mkF m 31 #[.val (.ref xq), .val (.int xo), .val (.int xi), .val (.int (Nat.toInt32 xn)), .unset, .unset] [(.ref xq)])) rfl (by rw [hml]; rfl) (Steps.refl _) (argsL := []) (rest := []) (lenOf own_pd1 rfl) rfl (by show 2 * 0 + _ ≤ _; exact Nat.le_of_eq rfl) (hb hby ds_31) (fun _ _ => ⟨rfl, e0, (by decide : 0 + 0 ≤ _), (by decide : 0 + 0 ≤ _)⟩)
      dsimp only [Pt.U, Pt.locs, Pt.cells, Pt.slots] at X330 l330 y330 z330 st330 hQ330
      subst l330 y330 z330
      obtain ⟨r330, rfl, Nq330, Zq330, ER330, Ol330, QI330⟩ := hQ330
      have Nf331 := Fr.app N0 Nq330
      have A332 : ∀ t, Steps p.tables e below (T330.setTop (mkF m 34 #[.val (.ref xq), .val (.int xo), .val (.int xi), .val (.int (Nat.toInt32 xn)), .unset, .unset] [(.ref r330)])) t → Steps p.tables e below (s₁.setTop (entryFrame m #[(.ref xq), (.int xo), (.int xi), (.int (Nat.toInt32 xn))] 6)) t := by
        intro t k
        refine A329 _ ?_
        refine st330.trans ?_
        show Steps p.tables e below (T330.setTop (mkF m 34 #[.val (.ref xq), .val (.int xo), .val (.int xi), .val (.int (Nat.toInt32 xn)), .unset, .unset] [(.ref r330)])) _
        exact k
      obtain ⟨T333, X333, e333, st333⟩ := castY X330 hx hZ hown (hw _ (List.mem_of_getElem? (i := 59) rfl)) rfl (Ins.self (ER330.ext Ol330.2)) (g := (mkF m 34 #[.val (.ref xq), .val (.int xo), .val (.int xi), .val (.int (Nat.toInt32 xn)), .unset, .unset] [(.ref r330)])) rfl rfl (hb hby ds_34)
      have A334 : ∀ t, Steps p.tables e below (T333.setTop (mkF m 37 #[.val (.ref xq), .val (.int xo), .val (.int xi), .val (.int (Nat.toInt32 xn)), .unset, .unset] [(.ref r330)])) t → Steps p.tables e below (s₁.setTop (entryFrame m #[(.ref xq), (.int xo), (.int xi), (.int (Nat.toInt32 xn))] 6)) t := by
        intro t k
        refine A332 _ ?_
        refine st333 _ ?_
        show Steps p.tables e below (T333.setTop (mkF m 37 #[.val (.ref xq), .val (.int xo), .val (.int xi), .val (.int (Nat.toInt32 xn)), .unset, .unset] [(.ref r330)])) _
        exact k
      have hz0 : ¬ ((Nat.toInt32 xn) = (0 : Int32)) := fun y => absurd ((own_inj (a := xn) (b := 0) (by omega) (by omega)).mp y) (by omega)
      have A335 : ∀ t, Steps p.tables e below (T333.setTop (mkF m 74 #[.val (.ref xq), .val (.int xo), .val (.int xi), .val (.int (Nat.toInt32 xn)), .unset, .val (.ref r330)] [(.int ((Nat.toInt32 xn) - (1 : Int32)))])) t → Steps p.tables e below (s₁.setTop (entryFrame m #[(.ref xq), (.int xo), (.int xi), (.int (Nat.toInt32 xn))] 6)) t := by
        intro t k
        refine A334 _ ?_
        refine XS.astore X333.here hx rfl (hb hby ds_37) rfl rfl (l' := #[.val (.ref xq), .val (.int xo), .val (.int xi), .val (.int (Nat.toInt32 xn)), .unset, .val (.ref r330)]) rfl ?_
        show Steps p.tables e below (T333.setTop (mkF m 39 #[.val (.ref xq), .val (.int xo), .val (.int xi), .val (.int (Nat.toInt32 xn)), .unset, .val (.ref r330)] [])) _
        refine XS.aload X333.here hx rfl (hb hby ds_39) rfl rfl ?_
        show Steps p.tables e below (T333.setTop (mkF m 41 #[.val (.ref xq), .val (.int xo), .val (.int xi), .val (.int (Nat.toInt32 xn)), .unset, .val (.ref r330)] [(.ref r330)])) _
        refine XS.ifnonnullYes X333.here hx rfl (pc0 := 41) (pc' := 48) rfl (hb hby ds_41) rfl (by decide) (by decide) ?_
        show Steps p.tables e below (T333.setTop (mkF m 48 #[.val (.ref xq), .val (.int xo), .val (.int xi), .val (.int (Nat.toInt32 xn)), .unset, .val (.ref r330)] [])) _
        refine XS.iconst X333.here hx rfl (hb hby ds_48) ?_
        show Steps p.tables e below (T333.setTop (mkF m 49 #[.val (.ref xq), .val (.int xo), .val (.int xi), .val (.int (Nat.toInt32 xn)), .unset, .val (.ref r330)] [(.int (0 : Int32))])) _
        refine XS.iloadN X333.here hx rfl (hb hby ds_49) rfl ?_
        show Steps p.tables e below (T333.setTop (mkF m 50 #[.val (.ref xq), .val (.int xo), .val (.int xi), .val (.int (Nat.toInt32 xn)), .unset, .val (.ref r330)] [(.int (Nat.toInt32 xn)), (.int (0 : Int32))])) _
        refine XS.ifYes X333.here hx rfl (pc0 := 50) (pc' := 57) rfl (hb hby ds_50) rfl ((if0 _ _).trans (feq hz0).2) (by decide) (by decide) ?_
        show Steps p.tables e below (T333.setTop (mkF m 57 #[.val (.ref xq), .val (.int xo), .val (.int xi), .val (.int (Nat.toInt32 xn)), .unset, .val (.ref r330)] [(.int (0 : Int32))])) _
        refine XS.iconst X333.here hx rfl (hb hby ds_57) ?_
        show Steps p.tables e below (T333.setTop (mkF m 58 #[.val (.ref xq), .val (.int xo), .val (.int xi), .val (.int (Nat.toInt32 xn)), .unset, .val (.ref r330)] [(.int (0 : Int32)), (.int (0 : Int32))])) _
        refine XS.icmpYes X333.here hx rfl (pc0 := 58) (pc' := 63) rfl (hb hby ds_58) rfl (teq (by decide : ((0 : Int32) = (0 : Int32)))).1 (by decide) (by decide) ?_
        show Steps p.tables e below (T333.setTop (mkF m 63 #[.val (.ref xq), .val (.int xo), .val (.int xi), .val (.int (Nat.toInt32 xn)), .unset, .val (.ref r330)] [])) _
        refine XS.iloadN X333.here hx rfl (hb hby ds_63) rfl ?_
        show Steps p.tables e below (T333.setTop (mkF m 64 #[.val (.ref xq), .val (.int xo), .val (.int xi), .val (.int (Nat.toInt32 xn)), .unset, .val (.ref r330)] [(.int (Nat.toInt32 xn))])) _
        refine XS.ifYes X333.here hx rfl (pc0 := 64) (pc' := 71) rfl (hb hby ds_64) rfl ((if0 _ _).trans (feq hz0).2) (by decide) (by decide) ?_
        show Steps p.tables e below (T333.setTop (mkF m 71 #[.val (.ref xq), .val (.int xo), .val (.int xi), .val (.int (Nat.toInt32 xn)), .unset, .val (.ref r330)] [])) _
        refine XS.iloadN X333.here hx rfl (hb hby ds_71) rfl ?_
        show Steps p.tables e below (T333.setTop (mkF m 72 #[.val (.ref xq), .val (.int xo), .val (.int xi), .val (.int (Nat.toInt32 xn)), .unset, .val (.ref r330)] [(.int (Nat.toInt32 xn))])) _
        refine XS.iconst X333.here hx rfl (hb hby ds_72) ?_
        show Steps p.tables e below (T333.setTop (mkF m 73 #[.val (.ref xq), .val (.int xo), .val (.int xi), .val (.int (Nat.toInt32 xn)), .unset, .val (.ref r330)] [(.int (1 : Int32)), (.int (Nat.toInt32 xn))])) _
        refine XS.isub X333.here hx rfl (hb hby ds_73) rfl ?_
        show Steps p.tables e below (T333.setTop (mkF m 74 #[.val (.ref xq), .val (.int xo), .val (.int xi), .val (.int (Nat.toInt32 xn)), .unset, .val (.ref r330)] [(.int ((Nat.toInt32 xn) - (1 : Int32)))])) _
        exact k
      have hw336 : ((Nat.toInt32 xn) - (1 : Int32)) = (Nat.toInt32 (xn - 1)) := own_m1 hz (by omega)
      rw [hw336] at A335
      rw [← hxn] at QI330
      have QJ330 : own_QI Z T330.heap xq n0 (k + 1) (xn - 1) := own_moreI QI330
      have A337 : ∀ t, Steps p.tables e below (T333.setTop (mkF m 77 #[.val (.ref xq), .val (.int xo), .val (.int xi), .val (.int (Nat.toInt32 xn)), .val (.int (Nat.toInt32 (xn - 1))), .val (.ref r330)] [(.ref xq)])) t → Steps p.tables e below (s₁.setTop (entryFrame m #[(.ref xq), (.int xo), (.int xi), (.int (Nat.toInt32 xn))] 6)) t := by
        intro t k
        refine A335 _ ?_
        refine XS.istore X333.here hx rfl (hb hby ds_74) rfl (l' := #[.val (.ref xq), .val (.int xo), .val (.int xi), .val (.int (Nat.toInt32 xn)), .val (.int (Nat.toInt32 (xn - 1))), .val (.ref r330)]) rfl ?_
        show Steps p.tables e below (T333.setTop (mkF m 76 #[.val (.ref xq), .val (.int xo), .val (.int xi), .val (.int (Nat.toInt32 xn)), .val (.int (Nat.toInt32 (xn - 1))), .val (.ref r330)] [])) _
        refine XS.aloadN X333.here hx rfl (hb hby ds_76) rfl rfl ?_
        show Steps p.tables e below (T333.setTop (mkF m 77 #[.val (.ref xq), .val (.int xo), .val (.int xi), .val (.int (Nat.toInt32 xn)), .val (.int (Nat.toInt32 (xn - 1))), .val (.ref r330)] [(.ref xq)])) _
        exact k
      obtain ⟨yr, yl, yh, ys, yt, yts, yta, QD, hyn⟩ := QJ330
      obtain ⟨cq338, kq338, q338a, q338b, q338c⟩ := isOf hZ e333 QD.1
      obtain ⟨_, _, ⟨T338, L338, k338, n338⟩, -, X338, ⟨Lc338, hQ338, l338, y338, z338⟩, st338⟩ := X333.virtualBack hx (y := (⟨"com/example/fly_agaric/flyagaric/ChunkedQueue", "isEmpty", "()Z"⟩ : MethodName)) (z := (⟨"com/example/fly_agaric/flyagaric/ChunkedQueue", "isEmpty", "()Z"⟩ : MethodName)) hown (mvT hZ (hw _ (List.mem_of_getElem? (i := 15) rfl))) (mvT hZ (hw _ (List.mem_of_getElem? (i := 16) rfl))) (notFace_of_selects (args := #[]) (mvT hZ (hw _ (List.mem_of_getElem? (i := 18) rfl)))) (mvT hZ (hw _ (List.mem_of_getElem? (i := 18) rfl))) (mvT hZ (hw _ (List.mem_of_getElem? (i := 17) rfl))) (by decide) (backOf (W := 0) (own_isE l Z a0 hw [] xq yh yt (Nat.toInt32 yl) (Nat.toInt32 yta) T330.heap n0 Zq330 QD.2.1 QD.2.2.1 QD.2.2.2.1 QD.2.2.2.2.1) hZ (hw _ (List.mem_of_getElem? (i := 19) rfl)) (hw _ (List.mem_of_getElem? (i := 2) rfl)) (by decide) (by decide)) q338a q338c (g := (mkF m 77 #[.val (.ref xq), .val (.int xo), .val (.int xi), .val (.int (Nat.toInt32 xn)), .val (.int (Nat.toInt32 (xn - 1))), .val (.ref r330)] [(.ref xq)])) rfl (by rw [hml]; rfl) (Steps.refl _) (argsL := []) (rest := []) (lenOf own_pd0 rfl) rfl (by show 2 * 0 + _ ≤ _; exact Nat.le_of_eq rfl) (hb hby ds_77) (fun _ _ => ⟨rfl, e333, (by decide : 0 + 0 ≤ _), (by decide : 0 + 0 ≤ _)⟩)
      dsimp only [Pt.U, Pt.locs, Pt.cells, Pt.slots] at X338 l338 y338 z338 st338 hQ338
      subst l338 y338 z338
      obtain ⟨rfl, Nq338, eh338⟩ := hQ338
      have Nf339 := Fr.app Nf331 Nq338
      have A340 : ∀ t, Steps p.tables e below (T338.setTop (mkF m 80 #[.val (.ref xq), .val (.int xo), .val (.int xi), .val (.int (Nat.toInt32 xn)), .val (.int (Nat.toInt32 (xn - 1))), .val (.ref r330)] [(.int (if yh = yt then (if (Nat.toInt32 yl) = (Nat.toInt32 yta) then (1 : Int32) else 0) else 0))])) t → Steps p.tables e below (s₁.setTop (entryFrame m #[(.ref xq), (.int xo), (.int xi), (.int (Nat.toInt32 xn))] 6)) t := by
        intro t k
        refine A337 _ ?_
        refine st338.trans ?_
        show Steps p.tables e below (T338.setTop (mkF m 80 #[.val (.ref xq), .val (.int xo), .val (.int xi), .val (.int (Nat.toInt32 xn)), .val (.int (Nat.toInt32 (xn - 1))), .val (.ref r330)] [(.int (if yh = yt then (if (Nat.toInt32 yl) = (Nat.toInt32 yta) then (1 : Int32) else 0) else 0))])) _
        exact k
      have hw341 : (if yh = yt then (if (Nat.toInt32 yl) = (Nat.toInt32 yta) then (1 : Int32) else 0) else 0) = (if (xn - 1) = 0 then (1 : Int32) else 0) := by rw [own_isEv QD, ← hyn]
      rw [hw341] at A340
      have A342 : ∀ t, Steps p.tables e below (T338.setTop (mkF m 82 #[.val (.ref xq), .val (.int xo), .val (.int xi), .val (.int (Nat.toInt32 xn)), .val (.int (Nat.toInt32 (xn - 1))), .val (.ref r330)] [(.int (Nat.toInt32 (xn - 1))), (.int (if (xn - 1) = 0 then (1 : Int32) else 0))])) t → Steps p.tables e below (s₁.setTop (entryFrame m #[(.ref xq), (.int xo), (.int xi), (.int (Nat.toInt32 xn))] 6)) t := by
        intro t k
        refine A340 _ ?_
        refine XS.iload X338.here hx rfl (hb hby ds_80) rfl ?_
        show Steps p.tables e below (T338.setTop (mkF m 82 #[.val (.ref xq), .val (.int xo), .val (.int xi), .val (.int (Nat.toInt32 xn)), .val (.int (Nat.toInt32 (xn - 1))), .val (.ref r330)] [(.int (Nat.toInt32 (xn - 1))), (.int (if (xn - 1) = 0 then (1 : Int32) else 0))])) _
        exact k
      obtain ⟨u344, hu344⟩ : ∃ u : Int32, u = (if (Nat.toInt32 (xn - 1)) = (0 : Int32) then (1 : Int32) else (0 : Int32)) := ⟨_, rfl⟩
      have A345 : ∀ t, Steps p.tables e below (T338.setTop (mkF m 90 #[.val (.ref xq), .val (.int xo), .val (.int xi), .val (.int (Nat.toInt32 xn)), .val (.int (Nat.toInt32 (xn - 1))), .val (.ref r330)] [(.int u344), (.int (if (xn - 1) = 0 then (1 : Int32) else 0))])) t → Steps p.tables e below (s₁.setTop (entryFrame m #[(.ref xq), (.int xo), (.int xi), (.int (Nat.toInt32 xn))] 6)) t := by
        intro t k
        refine A342 _ ?_
        by_cases hj343 : (Nat.toInt32 (xn - 1)) = (0 : Int32)
        · refine XS.ifNo X338.here hx rfl (hb hby ds_82) rfl ((if0 _ _).trans (teq hj343).2) ?_
          show Steps p.tables e below (T338.setTop (mkF m 85 #[.val (.ref xq), .val (.int xo), .val (.int xi), .val (.int (Nat.toInt32 xn)), .val (.int (Nat.toInt32 (xn - 1))), .val (.ref r330)] [(.int (if (xn - 1) = 0 then (1 : Int32) else 0))])) _
          refine XS.iconst X338.here hx rfl (hb hby ds_85) ?_
          show Steps p.tables e below (T338.setTop (mkF m 86 #[.val (.ref xq), .val (.int xo), .val (.int xi), .val (.int (Nat.toInt32 xn)), .val (.int (Nat.toInt32 (xn - 1))), .val (.ref r330)] [(.int (1 : Int32)), (.int (if (xn - 1) = 0 then (1 : Int32) else 0))])) _
          refine XS.goto X338.here hx rfl (pc0 := 86) (pc' := 90) rfl (hb hby ds_86) (by decide) (by decide) ?_
          show Steps p.tables e below (T338.setTop (mkF m 90 #[.val (.ref xq), .val (.int xo), .val (.int xi), .val (.int (Nat.toInt32 xn)), .val (.int (Nat.toInt32 (xn - 1))), .val (.ref r330)] [(.int (1 : Int32)), (.int (if (xn - 1) = 0 then (1 : Int32) else 0))])) _
          have qu344 : u344 = (1 : Int32) := by first | (rw [hu344]; simp only [if_pos hj343]; done) | (rw [hu344]; simp [hj343]; done)
          rw [qu344] at k
          exact k
        · refine XS.ifYes X338.here hx rfl (pc0 := 82) (pc' := 89) rfl (hb hby ds_82) rfl ((if0 _ _).trans (feq hj343).2) (by decide) (by decide) ?_
          show Steps p.tables e below (T338.setTop (mkF m 89 #[.val (.ref xq), .val (.int xo), .val (.int xi), .val (.int (Nat.toInt32 xn)), .val (.int (Nat.toInt32 (xn - 1))), .val (.ref r330)] [(.int (if (xn - 1) = 0 then (1 : Int32) else 0))])) _
          refine XS.iconst X338.here hx rfl (hb hby ds_89) ?_
          show Steps p.tables e below (T338.setTop (mkF m 90 #[.val (.ref xq), .val (.int xo), .val (.int xi), .val (.int (Nat.toInt32 xn)), .val (.int (Nat.toInt32 (xn - 1))), .val (.ref r330)] [(.int (0 : Int32)), (.int (if (xn - 1) = 0 then (1 : Int32) else 0))])) _
          have qu344 : u344 = (0 : Int32) := by first | (rw [hu344]; simp only [if_neg hj343]; done) | (rw [hu344]; simp [hj343]; done)
          rw [qu344] at k
          exact k
      have hq : (if (xn - 1) = 0 then (1 : Int32) else 0) = u344 := by
        have hz : ((Nat.toInt32 (xn - 1)) = (0 : Int32)) ↔ (xn - 1) = 0 := own_inj (a := xn - 1) (b := 0) (by omega) (by omega)
        rw [hu344]
        simp only [hz]
      have A346 : ∀ t, Steps p.tables e below (T338.setTop (mkF m 97 #[.val (.ref xq), .val (.int xo), .val (.int xi), .val (.int (Nat.toInt32 xn)), .val (.int (Nat.toInt32 (xn - 1))), .val (.ref r330)] [(.int (Nat.toInt32 (xn - 1)))])) t → Steps p.tables e below (s₁.setTop (entryFrame m #[(.ref xq), (.int xo), (.int xi), (.int (Nat.toInt32 xn))] 6)) t := by
        intro t k
        refine A345 _ ?_
        refine XS.icmpYes X338.here hx rfl (pc0 := 90) (pc' := 95) rfl (hb hby ds_90) rfl (teq hq).1 (by decide) (by decide) ?_
        show Steps p.tables e below (T338.setTop (mkF m 95 #[.val (.ref xq), .val (.int xo), .val (.int xi), .val (.int (Nat.toInt32 xn)), .val (.int (Nat.toInt32 (xn - 1))), .val (.ref r330)] [])) _
        refine XS.iload X338.here hx rfl (hb hby ds_95) rfl ?_
        show Steps p.tables e below (T338.setTop (mkF m 97 #[.val (.ref xq), .val (.int xo), .val (.int xi), .val (.int (Nat.toInt32 xn)), .val (.int (Nat.toInt32 (xn - 1))), .val (.ref r330)] [(.int (Nat.toInt32 (xn - 1)))])) _
        exact k
      obtain ⟨fs, hr, hrun, hended, hW, hsame⟩ := X338.leave (v := some (.int (Nat.toInt32 (xn - 1)))) (fun h => by rw [Bd.returns] at h; cases h)
      refine ⟨_, _, A346 _ ?_, hrun, hended, _, _, rfl, ?_, ⟨_, rfl⟩, hW, hsame.mono (by decide) (by decide)⟩
      · exact retOut X338 hx Bd.returns rfl (Or.inl ⟨rfl, Or.inl rfl, _, rfl⟩) (hb hby ds_97) hr
      · show own_stp_Q Z xq k h0 n0 _ T338.heap _
        rw [eh338]
        exact ⟨xn - 1, rfl, Nf339, Zq330, Ol330, yr, yl, yh, ys, yt, yts, yta, QD, hyn⟩
  · have A347 : ∀ t, Steps p.tables e below (s₁.setTop (mkF m 16 #[.val (.ref xq), .val (.int xo), .val (.int xi), .val (.int (Nat.toInt32 xn)), .unset, .unset] [(.int xi), (.ref xq)])) t → Steps p.tables e below (s₁.setTop (entryFrame m #[(.ref xq), (.int xo), (.int xi), (.int (Nat.toInt32 xn))] 6)) t := by
      intro t k
      refine A317 _ ?_
      refine XS.ifNo X0.here hx rfl (hb hby ds_11) rfl ((if0 _ _).trans (feq hbit).1) ?_
      show Steps p.tables e below (s₁.setTop (mkF m 14 #[.val (.ref xq), .val (.int xo), .val (.int xi), .val (.int (Nat.toInt32 xn)), .unset, .unset] [])) _
      refine XS.aloadN X0.here hx rfl (hb hby ds_14) rfl rfl ?_
      show Steps p.tables e below (s₁.setTop (mkF m 15 #[.val (.ref xq), .val (.int xo), .val (.int xi), .val (.int (Nat.toInt32 xn)), .unset, .unset] [(.ref xq)])) _
      refine XS.iloadN X0.here hx rfl (hb hby ds_15) rfl ?_
      show Steps p.tables e below (s₁.setTop (mkF m 16 #[.val (.ref xq), .val (.int xo), .val (.int xi), .val (.int (Nat.toInt32 xn)), .unset, .unset] [(.int xi), (.ref xq)])) _
      exact k
    obtain ⟨_, _, ⟨T348, L348, k348, n348⟩, -, X348, ⟨Lc348, hQ348, l348, y348, z348⟩, st348⟩ := Jvm.LawKit.callS X0 hx (y := (⟨"java/lang/Integer", "valueOf", "(I)Ljava/lang/Integer;"⟩ : MethodName)) hown (mvT hZ (hw _ (List.mem_of_getElem? (i := 39) rfl))) (mvT hZ (hw _ (List.mem_of_getElem? (i := 40) rfl))) (mvT hZ (hw _ (List.mem_of_getElem? (i := 41) rfl))) (mvT hZ (hw _ (List.mem_of_getElem? (i := 42) rfl))) (by decide) (backOf (W := 1) (own_vo l Z a0 hw [] xi vc cc h0 n0 Z0 SH SC AC sz hel O0 hlo hhi) hZ (hw _ (List.mem_of_getElem? (i := 42) rfl)) (hw _ (List.mem_of_getElem? (i := 41) rfl)) (by decide) (by decide)) (g := (mkF m 16 #[.val (.ref xq), .val (.int xo), .val (.int xi), .val (.int (Nat.toInt32 xn)), .unset, .unset] [(.int xi), (.ref xq)])) rfl (by rw [hml]; rfl) (argsL := [(.int xi)]) (rest := [(.ref xq)]) (lenOf own_pd3 rfl) rfl (by show 2 * 0 + _ ≤ _; exact Nat.le_of_eq rfl) (hb hby ds_16) (fun _ _ => ⟨rfl, e0, (by decide : 0 + 0 ≤ _), (by decide : 0 + 0 ≤ _)⟩)
    dsimp only [Pt.U, Pt.locs, Pt.cells, Pt.slots] at X348 l348 y348 z348 st348 hQ348
    subst l348 y348 z348
    obtain ⟨r348, rfl, Nq348, eh348, ER348⟩ := hQ348
    have Nf349 := Fr.app N0 Nq348
    have A350 : ∀ t, Steps p.tables e below (T348.setTop (mkF m 19 #[.val (.ref xq), .val (.int xo), .val (.int xi), .val (.int (Nat.toInt32 xn)), .unset, .unset] [(.ref r348), (.ref xq)])) t → Steps p.tables e below (s₁.setTop (entryFrame m #[(.ref xq), (.int xo), (.int xi), (.int (Nat.toInt32 xn))] 6)) t := by
      intro t k
      refine A347 _ ?_
      refine st348 _ ?_
      show Steps p.tables e below (T348.setTop (mkF m 19 #[.val (.ref xq), .val (.int xo), .val (.int xi), .val (.int (Nat.toInt32 xn)), .unset, .unset] [(.ref r348), (.ref xq)])) _
      exact k
    obtain ⟨cq351, kq351, q351a, q351b, q351c⟩ := isOf hZ eh348 QC.1
    obtain ⟨_, _, ⟨T351, L351, k351, n351⟩, -, X351, ⟨Lc351, hQ351, l351, y351, z351⟩, st351⟩ := X348.virtualBack hx (y := (⟨"com/example/fly_agaric/flyagaric/ChunkedQueue", "add", "(Ljava/lang/Object;)V"⟩ : MethodName)) (z := (⟨"com/example/fly_agaric/flyagaric/ChunkedQueue", "add", "(Ljava/lang/Object;)V"⟩ : MethodName)) hown (mvT hZ (hw _ (List.mem_of_getElem? (i := 46) rfl))) (mvT hZ (hw _ (List.mem_of_getElem? (i := 47) rfl))) (notFace_of_selects (args := #[]) (mvT hZ (hw _ (List.mem_of_getElem? (i := 49) rfl)))) (mvT hZ (hw _ (List.mem_of_getElem? (i := 49) rfl))) (mvT hZ (hw _ (List.mem_of_getElem? (i := 48) rfl))) (by decide) (backOf (W := 0) (own_add l Z a0 hw [] xq r348 k xr lo xh sz' xt ts ta h0 n0 Z0 QC hk9 ER348 gq O0) hZ (hw _ (List.mem_of_getElem? (i := 50) rfl)) (hw _ (List.mem_of_getElem? (i := 2) rfl)) (by decide) (by decide)) q351a q351c (g := (mkF m 19 #[.val (.ref xq), .val (.int xo), .val (.int xi), .val (.int (Nat.toInt32 xn)), .unset, .unset] [(.ref r348), (.ref xq)])) rfl (by rw [hml]; rfl) (Steps.refl _) (argsL := [(.ref r348)]) (rest := []) (lenOf own_pd4 rfl) rfl (by show 2 * 0 + _ ≤ _; exact Nat.le_of_eq rfl) (hb hby ds_19) (fun _ _ => ⟨rfl, eh348, (by decide : 0 + 1 ≤ _), (by decide : 0 + 8 ≤ _)⟩)
    dsimp only [Pt.U, Pt.locs, Pt.cells, Pt.slots] at X351 l351 y351 z351 st351 hQ351
    subst l351 y351 z351
    obtain ⟨rfl, Nq351, Zq351, Ol351, QI351⟩ := hQ351
    have Nf352 := Fr.app Nf349 Nq351
    have A353 : ∀ t, Steps p.tables e below (T351.setTop (mkF m 25 #[.val (.ref xq), .val (.int xo), .val (.int xi), .val (.int (Nat.toInt32 xn)), .unset, .unset] [(.int ((Nat.toInt32 xn) + (1 : Int32)))])) t → Steps p.tables e below (s₁.setTop (entryFrame m #[(.ref xq), (.int xo), (.int xi), (.int (Nat.toInt32 xn))] 6)) t := by
      intro t k
      refine A350 _ ?_
      refine st351.trans ?_
      show Steps p.tables e below (T351.setTop (mkF m 22 #[.val (.ref xq), .val (.int xo), .val (.int xi), .val (.int (Nat.toInt32 xn)), .unset, .unset] [])) _
      refine XS.iloadN X351.here hx rfl (hb hby ds_22) rfl ?_
      show Steps p.tables e below (T351.setTop (mkF m 23 #[.val (.ref xq), .val (.int xo), .val (.int xi), .val (.int (Nat.toInt32 xn)), .unset, .unset] [(.int (Nat.toInt32 xn))])) _
      refine XS.iconst X351.here hx rfl (hb hby ds_23) ?_
      show Steps p.tables e below (T351.setTop (mkF m 24 #[.val (.ref xq), .val (.int xo), .val (.int xi), .val (.int (Nat.toInt32 xn)), .unset, .unset] [(.int (1 : Int32)), (.int (Nat.toInt32 xn))])) _
      refine XS.iadd X351.here hx rfl (hb hby ds_24) rfl ?_
      show Steps p.tables e below (T351.setTop (mkF m 25 #[.val (.ref xq), .val (.int xo), .val (.int xi), .val (.int (Nat.toInt32 xn)), .unset, .unset] [(.int ((Nat.toInt32 xn) + (1 : Int32)))])) _
      exact k
    have hw354 : ((Nat.toInt32 xn) + (1 : Int32)) = (Nat.toInt32 (xn + 1)) := own_s1 hxn31
    rw [hw354] at A353
    rw [← hxn] at QI351
    have A355 : ∀ t, Steps p.tables e below (T351.setTop (mkF m 77 #[.val (.ref xq), .val (.int xo), .val (.int xi), .val (.int (Nat.toInt32 xn)), .val (.int (Nat.toInt32 (xn + 1))), .unset] [(.ref xq)])) t → Steps p.tables e below (s₁.setTop (entryFrame m #[(.ref xq), (.int xo), (.int xi), (.int (Nat.toInt32 xn))] 6)) t := by
      intro t k
      refine A353 _ ?_
      refine XS.istore X351.here hx rfl (hb hby ds_25) rfl (l' := #[.val (.ref xq), .val (.int xo), .val (.int xi), .val (.int (Nat.toInt32 xn)), .val (.int (Nat.toInt32 (xn + 1))), .unset]) rfl ?_
      show Steps p.tables e below (T351.setTop (mkF m 27 #[.val (.ref xq), .val (.int xo), .val (.int xi), .val (.int (Nat.toInt32 xn)), .val (.int (Nat.toInt32 (xn + 1))), .unset] [])) _
      refine XS.goto X351.here hx rfl (pc0 := 27) (pc' := 76) rfl (hb hby ds_27) (by decide) (by decide) ?_
      show Steps p.tables e below (T351.setTop (mkF m 76 #[.val (.ref xq), .val (.int xo), .val (.int xi), .val (.int (Nat.toInt32 xn)), .val (.int (Nat.toInt32 (xn + 1))), .unset] [])) _
      refine XS.aloadN X351.here hx rfl (hb hby ds_76) rfl rfl ?_
      show Steps p.tables e below (T351.setTop (mkF m 77 #[.val (.ref xq), .val (.int xo), .val (.int xi), .val (.int (Nat.toInt32 xn)), .val (.int (Nat.toInt32 (xn + 1))), .unset] [(.ref xq)])) _
      exact k
    obtain ⟨yr, yl, yh, ys, yt, yts, yta, QD, hyn⟩ := QI351
    obtain ⟨cq356, kq356, q356a, q356b, q356c⟩ := isOf hZ rfl QD.1
    obtain ⟨_, _, ⟨T356, L356, k356, n356⟩, -, X356, ⟨Lc356, hQ356, l356, y356, z356⟩, st356⟩ := X351.virtualBack hx (y := (⟨"com/example/fly_agaric/flyagaric/ChunkedQueue", "isEmpty", "()Z"⟩ : MethodName)) (z := (⟨"com/example/fly_agaric/flyagaric/ChunkedQueue", "isEmpty", "()Z"⟩ : MethodName)) hown (mvT hZ (hw _ (List.mem_of_getElem? (i := 15) rfl))) (mvT hZ (hw _ (List.mem_of_getElem? (i := 16) rfl))) (notFace_of_selects (args := #[]) (mvT hZ (hw _ (List.mem_of_getElem? (i := 18) rfl)))) (mvT hZ (hw _ (List.mem_of_getElem? (i := 18) rfl))) (mvT hZ (hw _ (List.mem_of_getElem? (i := 17) rfl))) (by decide) (backOf (W := 0) (own_isE l Z a0 hw [] xq yh yt (Nat.toInt32 yl) (Nat.toInt32 yta) T351.heap n0 Zq351 QD.2.1 QD.2.2.1 QD.2.2.2.1 QD.2.2.2.2.1) hZ (hw _ (List.mem_of_getElem? (i := 19) rfl)) (hw _ (List.mem_of_getElem? (i := 2) rfl)) (by decide) (by decide)) q356a q356c (g := (mkF m 77 #[.val (.ref xq), .val (.int xo), .val (.int xi), .val (.int (Nat.toInt32 xn)), .val (.int (Nat.toInt32 (xn + 1))), .unset] [(.ref xq)])) rfl (by rw [hml]; rfl) (Steps.refl _) (argsL := []) (rest := []) (lenOf own_pd0 rfl) rfl (by show 2 * 0 + _ ≤ _; exact Nat.le_of_eq rfl) (hb hby ds_77) (fun _ _ => ⟨rfl, rfl, (by decide : 1 + 0 ≤ _), (by decide : 8 + 0 ≤ _)⟩)
    dsimp only [Pt.U, Pt.locs, Pt.cells, Pt.slots] at X356 l356 y356 z356 st356 hQ356
    subst l356 y356 z356
    obtain ⟨rfl, Nq356, eh356⟩ := hQ356
    have Nf357 := Fr.app Nf352 Nq356
    have A358 : ∀ t, Steps p.tables e below (T356.setTop (mkF m 80 #[.val (.ref xq), .val (.int xo), .val (.int xi), .val (.int (Nat.toInt32 xn)), .val (.int (Nat.toInt32 (xn + 1))), .unset] [(.int (if yh = yt then (if (Nat.toInt32 yl) = (Nat.toInt32 yta) then (1 : Int32) else 0) else 0))])) t → Steps p.tables e below (s₁.setTop (entryFrame m #[(.ref xq), (.int xo), (.int xi), (.int (Nat.toInt32 xn))] 6)) t := by
      intro t k
      refine A355 _ ?_
      refine st356.trans ?_
      show Steps p.tables e below (T356.setTop (mkF m 80 #[.val (.ref xq), .val (.int xo), .val (.int xi), .val (.int (Nat.toInt32 xn)), .val (.int (Nat.toInt32 (xn + 1))), .unset] [(.int (if yh = yt then (if (Nat.toInt32 yl) = (Nat.toInt32 yta) then (1 : Int32) else 0) else 0))])) _
      exact k
    have hw359 : (if yh = yt then (if (Nat.toInt32 yl) = (Nat.toInt32 yta) then (1 : Int32) else 0) else 0) = (if (xn + 1) = 0 then (1 : Int32) else 0) := by rw [own_isEv QD, ← hyn]
    rw [hw359] at A358
    have A360 : ∀ t, Steps p.tables e below (T356.setTop (mkF m 82 #[.val (.ref xq), .val (.int xo), .val (.int xi), .val (.int (Nat.toInt32 xn)), .val (.int (Nat.toInt32 (xn + 1))), .unset] [(.int (Nat.toInt32 (xn + 1))), (.int (if (xn + 1) = 0 then (1 : Int32) else 0))])) t → Steps p.tables e below (s₁.setTop (entryFrame m #[(.ref xq), (.int xo), (.int xi), (.int (Nat.toInt32 xn))] 6)) t := by
      intro t k
      refine A358 _ ?_
      refine XS.iload X356.here hx rfl (hb hby ds_80) rfl ?_
      show Steps p.tables e below (T356.setTop (mkF m 82 #[.val (.ref xq), .val (.int xo), .val (.int xi), .val (.int (Nat.toInt32 xn)), .val (.int (Nat.toInt32 (xn + 1))), .unset] [(.int (Nat.toInt32 (xn + 1))), (.int (if (xn + 1) = 0 then (1 : Int32) else 0))])) _
      exact k
    obtain ⟨u362, hu362⟩ : ∃ u : Int32, u = (if (Nat.toInt32 (xn + 1)) = (0 : Int32) then (1 : Int32) else (0 : Int32)) := ⟨_, rfl⟩
    have A363 : ∀ t, Steps p.tables e below (T356.setTop (mkF m 90 #[.val (.ref xq), .val (.int xo), .val (.int xi), .val (.int (Nat.toInt32 xn)), .val (.int (Nat.toInt32 (xn + 1))), .unset] [(.int u362), (.int (if (xn + 1) = 0 then (1 : Int32) else 0))])) t → Steps p.tables e below (s₁.setTop (entryFrame m #[(.ref xq), (.int xo), (.int xi), (.int (Nat.toInt32 xn))] 6)) t := by
      intro t k
      refine A360 _ ?_
      by_cases hj361 : (Nat.toInt32 (xn + 1)) = (0 : Int32)
      · refine XS.ifNo X356.here hx rfl (hb hby ds_82) rfl ((if0 _ _).trans (teq hj361).2) ?_
        show Steps p.tables e below (T356.setTop (mkF m 85 #[.val (.ref xq), .val (.int xo), .val (.int xi), .val (.int (Nat.toInt32 xn)), .val (.int (Nat.toInt32 (xn + 1))), .unset] [(.int (if (xn + 1) = 0 then (1 : Int32) else 0))])) _
        refine XS.iconst X356.here hx rfl (hb hby ds_85) ?_
        show Steps p.tables e below (T356.setTop (mkF m 86 #[.val (.ref xq), .val (.int xo), .val (.int xi), .val (.int (Nat.toInt32 xn)), .val (.int (Nat.toInt32 (xn + 1))), .unset] [(.int (1 : Int32)), (.int (if (xn + 1) = 0 then (1 : Int32) else 0))])) _
        refine XS.goto X356.here hx rfl (pc0 := 86) (pc' := 90) rfl (hb hby ds_86) (by decide) (by decide) ?_
        show Steps p.tables e below (T356.setTop (mkF m 90 #[.val (.ref xq), .val (.int xo), .val (.int xi), .val (.int (Nat.toInt32 xn)), .val (.int (Nat.toInt32 (xn + 1))), .unset] [(.int (1 : Int32)), (.int (if (xn + 1) = 0 then (1 : Int32) else 0))])) _
        have qu362 : u362 = (1 : Int32) := by first | (rw [hu362]; simp only [if_pos hj361]; done) | (rw [hu362]; simp [hj361]; done)
        rw [qu362] at k
        exact k
      · refine XS.ifYes X356.here hx rfl (pc0 := 82) (pc' := 89) rfl (hb hby ds_82) rfl ((if0 _ _).trans (feq hj361).2) (by decide) (by decide) ?_
        show Steps p.tables e below (T356.setTop (mkF m 89 #[.val (.ref xq), .val (.int xo), .val (.int xi), .val (.int (Nat.toInt32 xn)), .val (.int (Nat.toInt32 (xn + 1))), .unset] [(.int (if (xn + 1) = 0 then (1 : Int32) else 0))])) _
        refine XS.iconst X356.here hx rfl (hb hby ds_89) ?_
        show Steps p.tables e below (T356.setTop (mkF m 90 #[.val (.ref xq), .val (.int xo), .val (.int xi), .val (.int (Nat.toInt32 xn)), .val (.int (Nat.toInt32 (xn + 1))), .unset] [(.int (0 : Int32)), (.int (if (xn + 1) = 0 then (1 : Int32) else 0))])) _
        have qu362 : u362 = (0 : Int32) := by first | (rw [hu362]; simp only [if_neg hj361]; done) | (rw [hu362]; simp [hj361]; done)
        rw [qu362] at k
        exact k
    have hq : (if (xn + 1) = 0 then (1 : Int32) else 0) = u362 := by
      have hz : ((Nat.toInt32 (xn + 1)) = (0 : Int32)) ↔ (xn + 1) = 0 := own_inj (a := xn + 1) (b := 0) (by omega) (by omega)
      rw [hu362]
      simp only [hz]
    have A364 : ∀ t, Steps p.tables e below (T356.setTop (mkF m 97 #[.val (.ref xq), .val (.int xo), .val (.int xi), .val (.int (Nat.toInt32 xn)), .val (.int (Nat.toInt32 (xn + 1))), .unset] [(.int (Nat.toInt32 (xn + 1)))])) t → Steps p.tables e below (s₁.setTop (entryFrame m #[(.ref xq), (.int xo), (.int xi), (.int (Nat.toInt32 xn))] 6)) t := by
      intro t k
      refine A363 _ ?_
      refine XS.icmpYes X356.here hx rfl (pc0 := 90) (pc' := 95) rfl (hb hby ds_90) rfl (teq hq).1 (by decide) (by decide) ?_
      show Steps p.tables e below (T356.setTop (mkF m 95 #[.val (.ref xq), .val (.int xo), .val (.int xi), .val (.int (Nat.toInt32 xn)), .val (.int (Nat.toInt32 (xn + 1))), .unset] [])) _
      refine XS.iload X356.here hx rfl (hb hby ds_95) rfl ?_
      show Steps p.tables e below (T356.setTop (mkF m 97 #[.val (.ref xq), .val (.int xo), .val (.int xi), .val (.int (Nat.toInt32 xn)), .val (.int (Nat.toInt32 (xn + 1))), .unset] [(.int (Nat.toInt32 (xn + 1)))])) _
      exact k
    obtain ⟨fs, hr, hrun, hended, hW, hsame⟩ := X356.leave (v := some (.int (Nat.toInt32 (xn + 1)))) (fun h => by rw [Bd.returns] at h; cases h)
    refine ⟨_, _, A364 _ ?_, hrun, hended, _, _, rfl, ?_, ⟨_, rfl⟩, hW, hsame.mono (by decide) (by decide)⟩
    · exact retOut X356 hx Bd.returns rfl (Or.inl ⟨rfl, Or.inl rfl, _, rfl⟩) (hb hby ds_97) hr
    · show own_stp_Q Z xq k h0 n0 _ T356.heap _
      rw [eh356]
      exact ⟨xn + 1, rfl, Nf357, Zq351, Ol351, yr, yl, yh, ys, yt, yts, yta, QD, hyn⟩
def own_Q0 (Z : State) (xo : Int32) (h0 : Heap) (n0 : Nat) (v : Option Value) (h : Heap) (L : List Loc) : Prop := v = some (.int 1) ∧ Fr n0 L
theorem own_law_ef (m : MethodId) (x0 : Int32) : entryFrame m #[(.int x0)] maxLocals = mkF m 0 #[.val (.int x0), .unset, .unset, .unset] [] := by first | (simp [entryFrame, mkF, argsToLocals, Value.category, maxLocals]; done) | rfl
set_option maxRecDepth 65536 in
set_option maxHeartbeats 40000000 in
theorem own_law (l : Launch) (Z : State) (a0 : Array Value) (hw : ∀ d ∈ tables_1, d.before a0 Z = true) (ws : List Jvm.Cond) (xo : Int32) (vc : Addr) (cc : Cell) (h0 : Heap) (n0 : Nat) (Z0 : n0 ≤ h0.size) (SH : Sta Z Z.heap "java/lang/Integer$IntegerCache" "high" "I" (.int (127 : Int32))) (SC : Sta Z Z.heap "java/lang/Integer$IntegerCache" "cache" "[Ljava/lang/Integer;" (.ref vc)) (AC : Arr Z Z.heap vc cc (.object "java/lang/Integer")) (sz : cc.slots.size = 256) (hel : ∀ j : Int32, ¬ (j < 0 ∨ cc.slots.size ≤ j.toNatClampNeg) → ∃ r : Addr, cc.slots[j.toNatClampNeg]? = some (.ref r) ∧ Exa Z Z.heap r "java/lang/Integer") (O0 : Old Z n0 h0) :
    MetFree l x (head1 (Jvm.Cond.code x code maxLocals ret :: ws) room_1) (fun a U => a = #[(.int xo)] ∧ Z.Warmed39 U.vm ∧ U.heap = h0) (fun _ _ _ _ _ => True) (fun _ U o U' => ∃ v L, o = .returned v ∧ own_Q0 Z xo h0 n0 v U'.heap L ∧ FrameEnd U o U' L room_1.cells room_1.slots) := by
  refine MetFree.of_bodySF (plainFor_of_name own_pn2) hisR ?_
  intro p e s m args below meth c s₁ Bd hml0 hP hK
  obtain ⟨rfl, hZ, hh⟩ := hP
  have hx := Bd.exec
  have hby := Bd.bytes
  have hml : c.maxLocals = 4 := hml0
  have hown : s.vm.findClass "com/example/fly_agaric/flyagaric/ChunkedQueueIsEmptyPinLaw" = some m.cls := findClass_of_methodNamed Bd.named
  have hnm := (name_of_methodNamed Bd.named Bd.method).1
  have X0 : Stand p l e room_1 s m #[(.int xo)] below meth c s₁ [] 0 0 := Stand.of_body Bd
  have e0 : s₁.heap = h0 := by rw [← hh, Bd.state]; rfl
  have N0 := Fr.nil n0
  have A0 : ∀ t, Steps p.tables e below (s₁.setTop (mkF m 0 #[.val (.int xo), .unset, .unset, .unset] [])) t → Steps p.tables e below (s₁.setTop (entryFrame m #[(.int xo)] maxLocals)) t := fun t k => castTop (own_law_ef m xo) k
  obtain ⟨T365, h365, X365, e365, E365, B365, D365, -, st365⟩ := newO X0 hx hZ hown (hw _ (List.mem_of_getElem? (i := 0) rfl)) (hw _ (List.mem_of_getElem? (i := 1) rfl)) (hw _ (List.mem_of_getElem? (i := 2) rfl)) e0 (g := (mkF m 0 #[.val (.int xo), .unset, .unset, .unset] [])) rfl (hb hby at_0) (by decide) (by decide)
  obtain ⟨b365, g365⟩ : ∃ z, z = h0.size := ⟨_, rfl⟩
  rw [← g365] at B365 D365 st365
  have ge366 := Nat.le_trans Z0 (Nat.le_of_eq g365.symm)
  have Zs367 := Nat.le_trans Z0 E365.1
  have Fl368 : Fld Z h365 b365 "com/example/fly_agaric/flyagaric/ChunkedQueue" "head" "[Ljava/lang/Object;" .null := D365 (Or.inl (hw _ (List.mem_of_getElem? (i := 12) rfl))) (ty := (.array (.object "java/lang/Object"))) (by decide)
  have Fl369 : Fld Z h365 b365 "com/example/fly_agaric/flyagaric/ChunkedQueue" "tail" "[Ljava/lang/Object;" .null := D365 (Or.inl (hw _ (List.mem_of_getElem? (i := 14) rfl))) (ty := (.array (.object "java/lang/Object"))) (by decide)
  have Fl370 : Fld Z h365 b365 "com/example/fly_agaric/flyagaric/ChunkedQueue" "headAt" "I" (.int (0 : Int32)) := D365 (Or.inl (hw _ (List.mem_of_getElem? (i := 21) rfl))) (ty := .int) (by decide)
  have Fl371 : Fld Z h365 b365 "com/example/fly_agaric/flyagaric/ChunkedQueue" "tailAt" "I" (.int (0 : Int32)) := D365 (Or.inl (hw _ (List.mem_of_getElem? (i := 23) rfl))) (ty := .int) (by decide)
  have Ol372 := O0.ext E365
  have A373 : ∀ t, Steps p.tables e below (T365.setTop (mkF m 4 #[.val (.int xo), .unset, .unset, .unset] [(.ref b365), (.ref b365)])) t → Steps p.tables e below (s₁.setTop (entryFrame m #[(.int xo)] maxLocals)) t := by
    intro t k
    refine A0 _ ?_
    refine st365 _ ?_
    show Steps p.tables e below (T365.setTop (mkF m 3 #[.val (.int xo), .unset, .unset, .unset] [(.ref b365)])) _
    refine XS.dup X365.here hx rfl (hb hby at_3) rfl rfl ?_
    show Steps p.tables e below (T365.setTop (mkF m 4 #[.val (.int xo), .unset, .unset, .unset] [(.ref b365), (.ref b365)])) _
    exact k
  obtain ⟨_, _, ⟨T374, L374, k374, n374⟩, -, X374, ⟨Lc374, hQ374, l374, y374, z374⟩, st374⟩ := X365.specialBack hx (y := (⟨"com/example/fly_agaric/flyagaric/ChunkedQueue", "<init>", "()V"⟩ : MethodName)) rfl hown (mvT hZ (hw _ (List.mem_of_getElem? (i := 3) rfl))) (mvT hZ (hw _ (List.mem_of_getElem? (i := 4) rfl))) (mvT hZ (hw _ (List.mem_of_getElem? (i := 5) rfl))) (by decide) (backOf (W := 1) (own_ini l Z a0 hw [] b365 h365 n0 Zs367 B365 Fl368 Fl370 Fl369 Fl371 ge366 Ol372) hZ (hw _ (List.mem_of_getElem? (i := 5) rfl)) (hw _ (List.mem_of_getElem? (i := 2) rfl)) (by decide) (by decide)) (g := (mkF m 4 #[.val (.int xo), .unset, .unset, .unset] [(.ref b365), (.ref b365)])) rfl (by rw [hml]; rfl) (Steps.refl _) (a := b365) (argsL := []) (rest := [(.ref b365)]) (lenOf own_pd5 rfl) rfl (by show 2 * 0 + _ ≤ _; exact Nat.le_of_eq rfl) (hb hby at_4) (fun _ _ => ⟨rfl, e365, (by decide : 1 + 1 ≤ _), (by decide : 4 + 2 ≤ _)⟩)
  dsimp only [Pt.U, Pt.locs, Pt.cells, Pt.slots] at X374 l374 y374 z374 st374 hQ374
  subst l374 y374 z374
  obtain ⟨rfl, Nq374, Zq374, Ol374, QI374⟩ := hQ374
  have Nf375 := Fr.app N0 Nq374
  obtain ⟨yr, yl, yh, ys, yt, yts, yta, QD, hyn⟩ := QI374
  have A376 : ∀ t, Steps p.tables e below (T374.setTop (mkF m 9 #[.val (.int xo), .val (.ref b365), .unset, .unset] [(.ref b365)])) t → Steps p.tables e below (s₁.setTop (entryFrame m #[(.int xo)] maxLocals)) t := by
    intro t k
    refine A373 _ ?_
    refine st374.trans ?_
    show Steps p.tables e below (T374.setTop (mkF m 7 #[.val (.int xo), .unset, .unset, .unset] [(.ref b365)])) _
    refine XS.astoreN X374.here hx rfl (hb hby at_7) rfl rfl (l' := #[.val (.int xo), .val (.ref b365), .unset, .unset]) rfl ?_
    show Steps p.tables e below (T374.setTop (mkF m 8 #[.val (.int xo), .val (.ref b365), .unset, .unset] [])) _
    refine XS.aloadN X374.here hx rfl (hb hby at_8) rfl rfl ?_
    show Steps p.tables e below (T374.setTop (mkF m 9 #[.val (.int xo), .val (.ref b365), .unset, .unset] [(.ref b365)])) _
    exact k
  obtain ⟨cq377, kq377, q377a, q377b, q377c⟩ := isOf hZ rfl QD.1
  obtain ⟨_, _, ⟨T377, L377, k377, n377⟩, -, X377, ⟨Lc377, hQ377, l377, y377, z377⟩, st377⟩ := X374.virtualBack hx (y := (⟨"com/example/fly_agaric/flyagaric/ChunkedQueue", "isEmpty", "()Z"⟩ : MethodName)) (z := (⟨"com/example/fly_agaric/flyagaric/ChunkedQueue", "isEmpty", "()Z"⟩ : MethodName)) hown (mvT hZ (hw _ (List.mem_of_getElem? (i := 15) rfl))) (mvT hZ (hw _ (List.mem_of_getElem? (i := 16) rfl))) (notFace_of_selects (args := #[]) (mvT hZ (hw _ (List.mem_of_getElem? (i := 18) rfl)))) (mvT hZ (hw _ (List.mem_of_getElem? (i := 18) rfl))) (mvT hZ (hw _ (List.mem_of_getElem? (i := 17) rfl))) (by decide) (backOf (W := 0) (own_isE l Z a0 hw [] b365 yh yt (Nat.toInt32 yl) (Nat.toInt32 yta) T374.heap n0 Zq374 QD.2.1 QD.2.2.1 QD.2.2.2.1 QD.2.2.2.2.1) hZ (hw _ (List.mem_of_getElem? (i := 19) rfl)) (hw _ (List.mem_of_getElem? (i := 2) rfl)) (by decide) (by decide)) q377a q377c (g := (mkF m 9 #[.val (.int xo), .val (.ref b365), .unset, .unset] [(.ref b365)])) rfl (by rw [hml]; rfl) (Steps.refl _) (argsL := []) (rest := []) (lenOf own_pd0 rfl) rfl (by show 2 * 0 + _ ≤ _; exact Nat.le_of_eq rfl) (hb hby at_9) (fun _ _ => ⟨rfl, rfl, (by decide : 2 + 0 ≤ _), (by decide : 6 + 0 ≤ _)⟩)
  dsimp only [Pt.U, Pt.locs, Pt.cells, Pt.slots] at X377 l377 y377 z377 st377 hQ377
  subst l377 y377 z377
  obtain ⟨rfl, Nq377, eh377⟩ := hQ377
  have Nf378 := Fr.app Nf375 Nq377
  have A379 : ∀ t, Steps p.tables e below (T377.setTop (mkF m 12 #[.val (.int xo), .val (.ref b365), .unset, .unset] [(.int (if yh = yt then (if (Nat.toInt32 yl) = (Nat.toInt32 yta) then (1 : Int32) else 0) else 0))])) t → Steps p.tables e below (s₁.setTop (entryFrame m #[(.int xo)] maxLocals)) t := by
    intro t k
    refine A376 _ ?_
    refine st377.trans ?_
    show Steps p.tables e below (T377.setTop (mkF m 12 #[.val (.int xo), .val (.ref b365), .unset, .unset] [(.int (if yh = yt then (if (Nat.toInt32 yl) = (Nat.toInt32 yta) then (1 : Int32) else 0) else 0))])) _
    exact k
  have hw380 : (if yh = yt then (if (Nat.toInt32 yl) = (Nat.toInt32 yta) then (1 : Int32) else 0) else 0) = (1 : Int32) := by rw [own_isEv QD, ← hyn]; rfl
  rw [hw380] at A379
  have QJ0 : own_QI Z T374.heap b365 n0 0 0 := ⟨yr, yl, yh, ys, yt, yts, yta, QD, hyn⟩
  have A381 : ∀ t, Steps p.tables e below (T377.setTop (mkF m 19 #[.val (.int xo), .val (.ref b365), .val (.int (1 : Int32)), .val (.int (0 : Int32))] [(.int (0 : Int32)), (.int (0 : Int32)), (.int xo), (.ref b365)])) t → Steps p.tables e below (s₁.setTop (entryFrame m #[(.int xo)] maxLocals)) t := by
    intro t k
    refine A379 _ ?_
    refine XS.istoreN X377.here hx rfl (hb hby at_12) rfl (l' := #[.val (.int xo), .val (.ref b365), .val (.int (1 : Int32)), .unset]) rfl ?_
    show Steps p.tables e below (T377.setTop (mkF m 13 #[.val (.int xo), .val (.ref b365), .val (.int (1 : Int32)), .unset] [])) _
    refine XS.iconst X377.here hx rfl (hb hby at_13) ?_
    show Steps p.tables e below (T377.setTop (mkF m 14 #[.val (.int xo), .val (.ref b365), .val (.int (1 : Int32)), .unset] [(.int (0 : Int32))])) _
    refine XS.istoreN X377.here hx rfl (hb hby at_14) rfl (l' := #[.val (.int xo), .val (.ref b365), .val (.int (1 : Int32)), .val (.int (0 : Int32))]) rfl ?_
    show Steps p.tables e below (T377.setTop (mkF m 15 #[.val (.int xo), .val (.ref b365), .val (.int (1 : Int32)), .val (.int (0 : Int32))] [])) _
    refine XS.aloadN X377.here hx rfl (hb hby at_15) rfl rfl ?_
    show Steps p.tables e below (T377.setTop (mkF m 16 #[.val (.int xo), .val (.ref b365), .val (.int (1 : Int32)), .val (.int (0 : Int32))] [(.ref b365)])) _
    refine XS.iloadN X377.here hx rfl (hb hby at_16) rfl ?_
    show Steps p.tables e below (T377.setTop (mkF m 17 #[.val (.int xo), .val (.ref b365), .val (.int (1 : Int32)), .val (.int (0 : Int32))] [(.int xo), (.ref b365)])) _
    refine XS.iconst X377.here hx rfl (hb hby at_17) ?_
    show Steps p.tables e below (T377.setTop (mkF m 18 #[.val (.int xo), .val (.ref b365), .val (.int (1 : Int32)), .val (.int (0 : Int32))] [(.int (0 : Int32)), (.int xo), (.ref b365)])) _
    refine XS.iloadN X377.here hx rfl (hb hby at_18) rfl ?_
    show Steps p.tables e below (T377.setTop (mkF m 19 #[.val (.int xo), .val (.ref b365), .val (.int (1 : Int32)), .val (.int (0 : Int32))] [(.int (0 : Int32)), (.int (0 : Int32)), (.int xo), (.ref b365)])) _
    exact k
  obtain ⟨_, _, ⟨T382, L382, k382, n382⟩, -, X382, ⟨Lc382, hQ382, l382, y382, z382⟩, st382⟩ := Jvm.LawKit.callS X377 hx (y := (⟨"com/example/fly_agaric/flyagaric/ChunkedQueueIsEmptyPinLaw", "step", "(Lcom/example/fly_agaric/flyagaric/ChunkedQueue;III)I"⟩ : MethodName)) hown (mvT hZ (hw _ (List.mem_of_getElem? (i := 24) rfl))) (mvT hZ (hw _ (List.mem_of_getElem? (i := 25) rfl))) (mvT hZ (hw _ (List.mem_of_getElem? (i := 26) rfl))) (mvT hZ (hw _ (List.mem_of_getElem? (i := 27) rfl))) (by decide) (backOf (W := 0) (own_stp l Z a0 hw [] b365 xo (0 : Int32) 0 0 vc cc T374.heap n0 Zq374 SH SC AC sz hel Ol374 QJ0 (by decide) ge366 (by decide) (by decide)) hZ (hw _ (List.mem_of_getElem? (i := 27) rfl)) (hw _ (List.mem_of_getElem? (i := 26) rfl)) (by decide) (by decide)) (g := (mkF m 19 #[.val (.int xo), .val (.ref b365), .val (.int (1 : Int32)), .val (.int (0 : Int32))] [(.int (0 : Int32)), (.int (0 : Int32)), (.int xo), (.ref b365)])) rfl (by rw [hml]; rfl) (argsL := [(.ref b365), (.int xo), (.int (0 : Int32)), (.int (0 : Int32))]) (rest := []) (lenOf own_pd6 rfl) rfl (by show 2 * 0 + _ ≤ _; exact Nat.le_of_eq rfl) (hb hby at_19) (fun _ _ => ⟨rfl, eh377, (by decide : 2 + 1 ≤ _), (by decide : 6 + 8 ≤ _)⟩)
  dsimp only [Pt.U, Pt.locs, Pt.cells, Pt.slots] at X382 l382 y382 z382 st382 hQ382
  subst l382 y382 z382
  obtain ⟨c382, rfl, Nq382, Zq382, Ol382, QI382⟩ := hQ382
  have Nf383 := Fr.app Nf378 Nq382
  have A384 : ∀ t, Steps p.tables e below (T382.setTop (mkF m 27 #[.val (.int xo), .val (.ref b365), .val (.int (1 : Int32)), .val (.int (Nat.toInt32 c382))] [(.int (Nat.toInt32 c382)), (.int (1 : Int32)), (.int xo), (.ref b365)])) t → Steps p.tables e below (s₁.setTop (entryFrame m #[(.int xo)] maxLocals)) t := by
    intro t k
    refine A381 _ ?_
    refine st382 _ ?_
    show Steps p.tables e below (T382.setTop (mkF m 22 #[.val (.int xo), .val (.ref b365), .val (.int (1 : Int32)), .val (.int (0 : Int32))] [(.int (Nat.toInt32 c382))])) _
    refine XS.istoreN X382.here hx rfl (hb hby at_22) rfl (l' := #[.val (.int xo), .val (.ref b365), .val (.int (1 : Int32)), .val (.int (Nat.toInt32 c382))]) rfl ?_
    show Steps p.tables e below (T382.setTop (mkF m 23 #[.val (.int xo), .val (.ref b365), .val (.int (1 : Int32)), .val (.int (Nat.toInt32 c382))] [])) _
    refine XS.aloadN X382.here hx rfl (hb hby at_23) rfl rfl ?_
    show Steps p.tables e below (T382.setTop (mkF m 24 #[.val (.int xo), .val (.ref b365), .val (.int (1 : Int32)), .val (.int (Nat.toInt32 c382))] [(.ref b365)])) _
    refine XS.iloadN X382.here hx rfl (hb hby at_24) rfl ?_
    show Steps p.tables e below (T382.setTop (mkF m 25 #[.val (.int xo), .val (.ref b365), .val (.int (1 : Int32)), .val (.int (Nat.toInt32 c382))] [(.int xo), (.ref b365)])) _
    refine XS.iconst X382.here hx rfl (hb hby at_25) ?_
    show Steps p.tables e below (T382.setTop (mkF m 26 #[.val (.int xo), .val (.ref b365), .val (.int (1 : Int32)), .val (.int (Nat.toInt32 c382))] [(.int (1 : Int32)), (.int xo), (.ref b365)])) _
    refine XS.iloadN X382.here hx rfl (hb hby at_26) rfl ?_
    show Steps p.tables e below (T382.setTop (mkF m 27 #[.val (.int xo), .val (.ref b365), .val (.int (1 : Int32)), .val (.int (Nat.toInt32 c382))] [(.int (Nat.toInt32 c382)), (.int (1 : Int32)), (.int xo), (.ref b365)])) _
    exact k
  obtain ⟨_, _, ⟨T385, L385, k385, n385⟩, -, X385, ⟨Lc385, hQ385, l385, y385, z385⟩, st385⟩ := Jvm.LawKit.callS X382 hx (y := (⟨"com/example/fly_agaric/flyagaric/ChunkedQueueIsEmptyPinLaw", "step", "(Lcom/example/fly_agaric/flyagaric/ChunkedQueue;III)I"⟩ : MethodName)) hown (mvT hZ (hw _ (List.mem_of_getElem? (i := 24) rfl))) (mvT hZ (hw _ (List.mem_of_getElem? (i := 25) rfl))) (mvT hZ (hw _ (List.mem_of_getElem? (i := 26) rfl))) (mvT hZ (hw _ (List.mem_of_getElem? (i := 27) rfl))) (by decide) (backOf (W := 0) (own_stp l Z a0 hw [] b365 xo (1 : Int32) 1 c382 vc cc T382.heap n0 Zq382 SH SC AC sz hel Ol382 QI382 (by decide) ge366 (by decide) (by decide)) hZ (hw _ (List.mem_of_getElem? (i := 27) rfl)) (hw _ (List.mem_of_getElem? (i := 26) rfl)) (by decide) (by decide)) (g := (mkF m 27 #[.val (.int xo), .val (.ref b365), .val (.int (1 : Int32)), .val (.int (Nat.toInt32 c382))] [(.int (Nat.toInt32 c382)), (.int (1 : Int32)), (.int xo), (.ref b365)])) rfl (by rw [hml]; rfl) (argsL := [(.ref b365), (.int xo), (.int (1 : Int32)), (.int (Nat.toInt32 c382))]) (rest := []) (lenOf own_pd6 rfl) rfl (by show 2 * 0 + _ ≤ _; exact Nat.le_of_eq rfl) (hb hby at_27) (fun _ _ => ⟨rfl, rfl, (by decide : 3 + 1 ≤ _), (by decide : 14 + 8 ≤ _)⟩)
  dsimp only [Pt.U, Pt.locs, Pt.cells, Pt.slots] at X385 l385 y385 z385 st385 hQ385
  subst l385 y385 z385
  obtain ⟨c385, rfl, Nq385, Zq385, Ol385, QI385⟩ := hQ385
  have Nf386 := Fr.app Nf383 Nq385
  have A387 : ∀ t, Steps p.tables e below (T385.setTop (mkF m 35 #[.val (.int xo), .val (.ref b365), .val (.int (1 : Int32)), .val (.int (Nat.toInt32 c385))] [(.int (Nat.toInt32 c385)), (.int (2 : Int32)), (.int xo), (.ref b365)])) t → Steps p.tables e below (s₁.setTop (entryFrame m #[(.int xo)] maxLocals)) t := by
    intro t k
    refine A384 _ ?_
    refine st385 _ ?_
    show Steps p.tables e below (T385.setTop (mkF m 30 #[.val (.int xo), .val (.ref b365), .val (.int (1 : Int32)), .val (.int (Nat.toInt32 c382))] [(.int (Nat.toInt32 c385))])) _
    refine XS.istoreN X385.here hx rfl (hb hby at_30) rfl (l' := #[.val (.int xo), .val (.ref b365), .val (.int (1 : Int32)), .val (.int (Nat.toInt32 c385))]) rfl ?_
    show Steps p.tables e below (T385.setTop (mkF m 31 #[.val (.int xo), .val (.ref b365), .val (.int (1 : Int32)), .val (.int (Nat.toInt32 c385))] [])) _
    refine XS.aloadN X385.here hx rfl (hb hby at_31) rfl rfl ?_
    show Steps p.tables e below (T385.setTop (mkF m 32 #[.val (.int xo), .val (.ref b365), .val (.int (1 : Int32)), .val (.int (Nat.toInt32 c385))] [(.ref b365)])) _
    refine XS.iloadN X385.here hx rfl (hb hby at_32) rfl ?_
    show Steps p.tables e below (T385.setTop (mkF m 33 #[.val (.int xo), .val (.ref b365), .val (.int (1 : Int32)), .val (.int (Nat.toInt32 c385))] [(.int xo), (.ref b365)])) _
    refine XS.iconst X385.here hx rfl (hb hby at_33) ?_
    show Steps p.tables e below (T385.setTop (mkF m 34 #[.val (.int xo), .val (.ref b365), .val (.int (1 : Int32)), .val (.int (Nat.toInt32 c385))] [(.int (2 : Int32)), (.int xo), (.ref b365)])) _
    refine XS.iloadN X385.here hx rfl (hb hby at_34) rfl ?_
    show Steps p.tables e below (T385.setTop (mkF m 35 #[.val (.int xo), .val (.ref b365), .val (.int (1 : Int32)), .val (.int (Nat.toInt32 c385))] [(.int (Nat.toInt32 c385)), (.int (2 : Int32)), (.int xo), (.ref b365)])) _
    exact k
  obtain ⟨_, _, ⟨T388, L388, k388, n388⟩, -, X388, ⟨Lc388, hQ388, l388, y388, z388⟩, st388⟩ := Jvm.LawKit.callS X385 hx (y := (⟨"com/example/fly_agaric/flyagaric/ChunkedQueueIsEmptyPinLaw", "step", "(Lcom/example/fly_agaric/flyagaric/ChunkedQueue;III)I"⟩ : MethodName)) hown (mvT hZ (hw _ (List.mem_of_getElem? (i := 24) rfl))) (mvT hZ (hw _ (List.mem_of_getElem? (i := 25) rfl))) (mvT hZ (hw _ (List.mem_of_getElem? (i := 26) rfl))) (mvT hZ (hw _ (List.mem_of_getElem? (i := 27) rfl))) (by decide) (backOf (W := 0) (own_stp l Z a0 hw [] b365 xo (2 : Int32) 2 c385 vc cc T385.heap n0 Zq385 SH SC AC sz hel Ol385 QI385 (by decide) ge366 (by decide) (by decide)) hZ (hw _ (List.mem_of_getElem? (i := 27) rfl)) (hw _ (List.mem_of_getElem? (i := 26) rfl)) (by decide) (by decide)) (g := (mkF m 35 #[.val (.int xo), .val (.ref b365), .val (.int (1 : Int32)), .val (.int (Nat.toInt32 c385))] [(.int (Nat.toInt32 c385)), (.int (2 : Int32)), (.int xo), (.ref b365)])) rfl (by rw [hml]; rfl) (argsL := [(.ref b365), (.int xo), (.int (2 : Int32)), (.int (Nat.toInt32 c385))]) (rest := []) (lenOf own_pd6 rfl) rfl (by show 2 * 0 + _ ≤ _; exact Nat.le_of_eq rfl) (hb hby at_35) (fun _ _ => ⟨rfl, rfl, (by decide : 4 + 1 ≤ _), (by decide : 22 + 8 ≤ _)⟩)
  dsimp only [Pt.U, Pt.locs, Pt.cells, Pt.slots] at X388 l388 y388 z388 st388 hQ388
  subst l388 y388 z388
  obtain ⟨c388, rfl, Nq388, Zq388, Ol388, QI388⟩ := hQ388
  have Nf389 := Fr.app Nf386 Nq388
  have A390 : ∀ t, Steps p.tables e below (T388.setTop (mkF m 43 #[.val (.int xo), .val (.ref b365), .val (.int (1 : Int32)), .val (.int (Nat.toInt32 c388))] [(.int (Nat.toInt32 c388)), (.int (3 : Int32)), (.int xo), (.ref b365)])) t → Steps p.tables e below (s₁.setTop (entryFrame m #[(.int xo)] maxLocals)) t := by
    intro t k
    refine A387 _ ?_
    refine st388 _ ?_
    show Steps p.tables e below (T388.setTop (mkF m 38 #[.val (.int xo), .val (.ref b365), .val (.int (1 : Int32)), .val (.int (Nat.toInt32 c385))] [(.int (Nat.toInt32 c388))])) _
    refine XS.istoreN X388.here hx rfl (hb hby at_38) rfl (l' := #[.val (.int xo), .val (.ref b365), .val (.int (1 : Int32)), .val (.int (Nat.toInt32 c388))]) rfl ?_
    show Steps p.tables e below (T388.setTop (mkF m 39 #[.val (.int xo), .val (.ref b365), .val (.int (1 : Int32)), .val (.int (Nat.toInt32 c388))] [])) _
    refine XS.aloadN X388.here hx rfl (hb hby at_39) rfl rfl ?_
    show Steps p.tables e below (T388.setTop (mkF m 40 #[.val (.int xo), .val (.ref b365), .val (.int (1 : Int32)), .val (.int (Nat.toInt32 c388))] [(.ref b365)])) _
    refine XS.iloadN X388.here hx rfl (hb hby at_40) rfl ?_
    show Steps p.tables e below (T388.setTop (mkF m 41 #[.val (.int xo), .val (.ref b365), .val (.int (1 : Int32)), .val (.int (Nat.toInt32 c388))] [(.int xo), (.ref b365)])) _
    refine XS.iconst X388.here hx rfl (hb hby at_41) ?_
    show Steps p.tables e below (T388.setTop (mkF m 42 #[.val (.int xo), .val (.ref b365), .val (.int (1 : Int32)), .val (.int (Nat.toInt32 c388))] [(.int (3 : Int32)), (.int xo), (.ref b365)])) _
    refine XS.iloadN X388.here hx rfl (hb hby at_42) rfl ?_
    show Steps p.tables e below (T388.setTop (mkF m 43 #[.val (.int xo), .val (.ref b365), .val (.int (1 : Int32)), .val (.int (Nat.toInt32 c388))] [(.int (Nat.toInt32 c388)), (.int (3 : Int32)), (.int xo), (.ref b365)])) _
    exact k
  obtain ⟨_, _, ⟨T391, L391, k391, n391⟩, -, X391, ⟨Lc391, hQ391, l391, y391, z391⟩, st391⟩ := Jvm.LawKit.callS X388 hx (y := (⟨"com/example/fly_agaric/flyagaric/ChunkedQueueIsEmptyPinLaw", "step", "(Lcom/example/fly_agaric/flyagaric/ChunkedQueue;III)I"⟩ : MethodName)) hown (mvT hZ (hw _ (List.mem_of_getElem? (i := 24) rfl))) (mvT hZ (hw _ (List.mem_of_getElem? (i := 25) rfl))) (mvT hZ (hw _ (List.mem_of_getElem? (i := 26) rfl))) (mvT hZ (hw _ (List.mem_of_getElem? (i := 27) rfl))) (by decide) (backOf (W := 0) (own_stp l Z a0 hw [] b365 xo (3 : Int32) 3 c388 vc cc T388.heap n0 Zq388 SH SC AC sz hel Ol388 QI388 (by decide) ge366 (by decide) (by decide)) hZ (hw _ (List.mem_of_getElem? (i := 27) rfl)) (hw _ (List.mem_of_getElem? (i := 26) rfl)) (by decide) (by decide)) (g := (mkF m 43 #[.val (.int xo), .val (.ref b365), .val (.int (1 : Int32)), .val (.int (Nat.toInt32 c388))] [(.int (Nat.toInt32 c388)), (.int (3 : Int32)), (.int xo), (.ref b365)])) rfl (by rw [hml]; rfl) (argsL := [(.ref b365), (.int xo), (.int (3 : Int32)), (.int (Nat.toInt32 c388))]) (rest := []) (lenOf own_pd6 rfl) rfl (by show 2 * 0 + _ ≤ _; exact Nat.le_of_eq rfl) (hb hby at_43) (fun _ _ => ⟨rfl, rfl, (by decide : 5 + 1 ≤ _), (by decide : 30 + 8 ≤ _)⟩)
  dsimp only [Pt.U, Pt.locs, Pt.cells, Pt.slots] at X391 l391 y391 z391 st391 hQ391
  subst l391 y391 z391
  obtain ⟨c391, rfl, Nq391, Zq391, Ol391, QI391⟩ := hQ391
  have Nf392 := Fr.app Nf389 Nq391
  have A393 : ∀ t, Steps p.tables e below (T391.setTop (mkF m 51 #[.val (.int xo), .val (.ref b365), .val (.int (1 : Int32)), .val (.int (Nat.toInt32 c391))] [(.int (Nat.toInt32 c391)), (.int (4 : Int32)), (.int xo), (.ref b365)])) t → Steps p.tables e below (s₁.setTop (entryFrame m #[(.int xo)] maxLocals)) t := by
    intro t k
    refine A390 _ ?_
    refine st391 _ ?_
    show Steps p.tables e below (T391.setTop (mkF m 46 #[.val (.int xo), .val (.ref b365), .val (.int (1 : Int32)), .val (.int (Nat.toInt32 c388))] [(.int (Nat.toInt32 c391))])) _
    refine XS.istoreN X391.here hx rfl (hb hby at_46) rfl (l' := #[.val (.int xo), .val (.ref b365), .val (.int (1 : Int32)), .val (.int (Nat.toInt32 c391))]) rfl ?_
    show Steps p.tables e below (T391.setTop (mkF m 47 #[.val (.int xo), .val (.ref b365), .val (.int (1 : Int32)), .val (.int (Nat.toInt32 c391))] [])) _
    refine XS.aloadN X391.here hx rfl (hb hby at_47) rfl rfl ?_
    show Steps p.tables e below (T391.setTop (mkF m 48 #[.val (.int xo), .val (.ref b365), .val (.int (1 : Int32)), .val (.int (Nat.toInt32 c391))] [(.ref b365)])) _
    refine XS.iloadN X391.here hx rfl (hb hby at_48) rfl ?_
    show Steps p.tables e below (T391.setTop (mkF m 49 #[.val (.int xo), .val (.ref b365), .val (.int (1 : Int32)), .val (.int (Nat.toInt32 c391))] [(.int xo), (.ref b365)])) _
    refine XS.iconst X391.here hx rfl (hb hby at_49) ?_
    show Steps p.tables e below (T391.setTop (mkF m 50 #[.val (.int xo), .val (.ref b365), .val (.int (1 : Int32)), .val (.int (Nat.toInt32 c391))] [(.int (4 : Int32)), (.int xo), (.ref b365)])) _
    refine XS.iloadN X391.here hx rfl (hb hby at_50) rfl ?_
    show Steps p.tables e below (T391.setTop (mkF m 51 #[.val (.int xo), .val (.ref b365), .val (.int (1 : Int32)), .val (.int (Nat.toInt32 c391))] [(.int (Nat.toInt32 c391)), (.int (4 : Int32)), (.int xo), (.ref b365)])) _
    exact k
  obtain ⟨_, _, ⟨T394, L394, k394, n394⟩, -, X394, ⟨Lc394, hQ394, l394, y394, z394⟩, st394⟩ := Jvm.LawKit.callS X391 hx (y := (⟨"com/example/fly_agaric/flyagaric/ChunkedQueueIsEmptyPinLaw", "step", "(Lcom/example/fly_agaric/flyagaric/ChunkedQueue;III)I"⟩ : MethodName)) hown (mvT hZ (hw _ (List.mem_of_getElem? (i := 24) rfl))) (mvT hZ (hw _ (List.mem_of_getElem? (i := 25) rfl))) (mvT hZ (hw _ (List.mem_of_getElem? (i := 26) rfl))) (mvT hZ (hw _ (List.mem_of_getElem? (i := 27) rfl))) (by decide) (backOf (W := 0) (own_stp l Z a0 hw [] b365 xo (4 : Int32) 4 c391 vc cc T391.heap n0 Zq391 SH SC AC sz hel Ol391 QI391 (by decide) ge366 (by decide) (by decide)) hZ (hw _ (List.mem_of_getElem? (i := 27) rfl)) (hw _ (List.mem_of_getElem? (i := 26) rfl)) (by decide) (by decide)) (g := (mkF m 51 #[.val (.int xo), .val (.ref b365), .val (.int (1 : Int32)), .val (.int (Nat.toInt32 c391))] [(.int (Nat.toInt32 c391)), (.int (4 : Int32)), (.int xo), (.ref b365)])) rfl (by rw [hml]; rfl) (argsL := [(.ref b365), (.int xo), (.int (4 : Int32)), (.int (Nat.toInt32 c391))]) (rest := []) (lenOf own_pd6 rfl) rfl (by show 2 * 0 + _ ≤ _; exact Nat.le_of_eq rfl) (hb hby at_51) (fun _ _ => ⟨rfl, rfl, (by decide : 6 + 1 ≤ _), (by decide : 38 + 8 ≤ _)⟩)
  dsimp only [Pt.U, Pt.locs, Pt.cells, Pt.slots] at X394 l394 y394 z394 st394 hQ394
  subst l394 y394 z394
  obtain ⟨c394, rfl, Nq394, Zq394, Ol394, QI394⟩ := hQ394
  have Nf395 := Fr.app Nf392 Nq394
  have A396 : ∀ t, Steps p.tables e below (T394.setTop (mkF m 59 #[.val (.int xo), .val (.ref b365), .val (.int (1 : Int32)), .val (.int (Nat.toInt32 c394))] [(.int (Nat.toInt32 c394)), (.int (5 : Int32)), (.int xo), (.ref b365)])) t → Steps p.tables e below (s₁.setTop (entryFrame m #[(.int xo)] maxLocals)) t := by
    intro t k
    refine A393 _ ?_
    refine st394 _ ?_
    show Steps p.tables e below (T394.setTop (mkF m 54 #[.val (.int xo), .val (.ref b365), .val (.int (1 : Int32)), .val (.int (Nat.toInt32 c391))] [(.int (Nat.toInt32 c394))])) _
    refine XS.istoreN X394.here hx rfl (hb hby at_54) rfl (l' := #[.val (.int xo), .val (.ref b365), .val (.int (1 : Int32)), .val (.int (Nat.toInt32 c394))]) rfl ?_
    show Steps p.tables e below (T394.setTop (mkF m 55 #[.val (.int xo), .val (.ref b365), .val (.int (1 : Int32)), .val (.int (Nat.toInt32 c394))] [])) _
    refine XS.aloadN X394.here hx rfl (hb hby at_55) rfl rfl ?_
    show Steps p.tables e below (T394.setTop (mkF m 56 #[.val (.int xo), .val (.ref b365), .val (.int (1 : Int32)), .val (.int (Nat.toInt32 c394))] [(.ref b365)])) _
    refine XS.iloadN X394.here hx rfl (hb hby at_56) rfl ?_
    show Steps p.tables e below (T394.setTop (mkF m 57 #[.val (.int xo), .val (.ref b365), .val (.int (1 : Int32)), .val (.int (Nat.toInt32 c394))] [(.int xo), (.ref b365)])) _
    refine XS.iconst X394.here hx rfl (hb hby at_57) ?_
    show Steps p.tables e below (T394.setTop (mkF m 58 #[.val (.int xo), .val (.ref b365), .val (.int (1 : Int32)), .val (.int (Nat.toInt32 c394))] [(.int (5 : Int32)), (.int xo), (.ref b365)])) _
    refine XS.iloadN X394.here hx rfl (hb hby at_58) rfl ?_
    show Steps p.tables e below (T394.setTop (mkF m 59 #[.val (.int xo), .val (.ref b365), .val (.int (1 : Int32)), .val (.int (Nat.toInt32 c394))] [(.int (Nat.toInt32 c394)), (.int (5 : Int32)), (.int xo), (.ref b365)])) _
    exact k
  obtain ⟨_, _, ⟨T397, L397, k397, n397⟩, -, X397, ⟨Lc397, hQ397, l397, y397, z397⟩, st397⟩ := Jvm.LawKit.callS X394 hx (y := (⟨"com/example/fly_agaric/flyagaric/ChunkedQueueIsEmptyPinLaw", "step", "(Lcom/example/fly_agaric/flyagaric/ChunkedQueue;III)I"⟩ : MethodName)) hown (mvT hZ (hw _ (List.mem_of_getElem? (i := 24) rfl))) (mvT hZ (hw _ (List.mem_of_getElem? (i := 25) rfl))) (mvT hZ (hw _ (List.mem_of_getElem? (i := 26) rfl))) (mvT hZ (hw _ (List.mem_of_getElem? (i := 27) rfl))) (by decide) (backOf (W := 0) (own_stp l Z a0 hw [] b365 xo (5 : Int32) 5 c394 vc cc T394.heap n0 Zq394 SH SC AC sz hel Ol394 QI394 (by decide) ge366 (by decide) (by decide)) hZ (hw _ (List.mem_of_getElem? (i := 27) rfl)) (hw _ (List.mem_of_getElem? (i := 26) rfl)) (by decide) (by decide)) (g := (mkF m 59 #[.val (.int xo), .val (.ref b365), .val (.int (1 : Int32)), .val (.int (Nat.toInt32 c394))] [(.int (Nat.toInt32 c394)), (.int (5 : Int32)), (.int xo), (.ref b365)])) rfl (by rw [hml]; rfl) (argsL := [(.ref b365), (.int xo), (.int (5 : Int32)), (.int (Nat.toInt32 c394))]) (rest := []) (lenOf own_pd6 rfl) rfl (by show 2 * 0 + _ ≤ _; exact Nat.le_of_eq rfl) (hb hby at_59) (fun _ _ => ⟨rfl, rfl, (by decide : 7 + 1 ≤ _), (by decide : 46 + 8 ≤ _)⟩)
  dsimp only [Pt.U, Pt.locs, Pt.cells, Pt.slots] at X397 l397 y397 z397 st397 hQ397
  subst l397 y397 z397
  obtain ⟨c397, rfl, Nq397, Zq397, Ol397, QI397⟩ := hQ397
  have Nf398 := Fr.app Nf395 Nq397
  have A399 : ∀ t, Steps p.tables e below (T397.setTop (mkF m 68 #[.val (.int xo), .val (.ref b365), .val (.int (1 : Int32)), .val (.int (Nat.toInt32 c397))] [(.int (Nat.toInt32 c397)), (.int (6 : Int32)), (.int xo), (.ref b365)])) t → Steps p.tables e below (s₁.setTop (entryFrame m #[(.int xo)] maxLocals)) t := by
    intro t k
    refine A396 _ ?_
    refine st397 _ ?_
    show Steps p.tables e below (T397.setTop (mkF m 62 #[.val (.int xo), .val (.ref b365), .val (.int (1 : Int32)), .val (.int (Nat.toInt32 c394))] [(.int (Nat.toInt32 c397))])) _
    refine XS.istoreN X397.here hx rfl (hb hby at_62) rfl (l' := #[.val (.int xo), .val (.ref b365), .val (.int (1 : Int32)), .val (.int (Nat.toInt32 c397))]) rfl ?_
    show Steps p.tables e below (T397.setTop (mkF m 63 #[.val (.int xo), .val (.ref b365), .val (.int (1 : Int32)), .val (.int (Nat.toInt32 c397))] [])) _
    refine XS.aloadN X397.here hx rfl (hb hby at_63) rfl rfl ?_
    show Steps p.tables e below (T397.setTop (mkF m 64 #[.val (.int xo), .val (.ref b365), .val (.int (1 : Int32)), .val (.int (Nat.toInt32 c397))] [(.ref b365)])) _
    refine XS.iloadN X397.here hx rfl (hb hby at_64) rfl ?_
    show Steps p.tables e below (T397.setTop (mkF m 65 #[.val (.int xo), .val (.ref b365), .val (.int (1 : Int32)), .val (.int (Nat.toInt32 c397))] [(.int xo), (.ref b365)])) _
    refine XS.bipush X397.here hx rfl (hb hby at_65) ?_
    show Steps p.tables e below (T397.setTop (mkF m 67 #[.val (.int xo), .val (.ref b365), .val (.int (1 : Int32)), .val (.int (Nat.toInt32 c397))] [(.int (6 : Int32)), (.int xo), (.ref b365)])) _
    refine XS.iloadN X397.here hx rfl (hb hby at_67) rfl ?_
    show Steps p.tables e below (T397.setTop (mkF m 68 #[.val (.int xo), .val (.ref b365), .val (.int (1 : Int32)), .val (.int (Nat.toInt32 c397))] [(.int (Nat.toInt32 c397)), (.int (6 : Int32)), (.int xo), (.ref b365)])) _
    exact k
  obtain ⟨_, _, ⟨T400, L400, k400, n400⟩, -, X400, ⟨Lc400, hQ400, l400, y400, z400⟩, st400⟩ := Jvm.LawKit.callS X397 hx (y := (⟨"com/example/fly_agaric/flyagaric/ChunkedQueueIsEmptyPinLaw", "step", "(Lcom/example/fly_agaric/flyagaric/ChunkedQueue;III)I"⟩ : MethodName)) hown (mvT hZ (hw _ (List.mem_of_getElem? (i := 24) rfl))) (mvT hZ (hw _ (List.mem_of_getElem? (i := 25) rfl))) (mvT hZ (hw _ (List.mem_of_getElem? (i := 26) rfl))) (mvT hZ (hw _ (List.mem_of_getElem? (i := 27) rfl))) (by decide) (backOf (W := 0) (own_stp l Z a0 hw [] b365 xo (6 : Int32) 6 c397 vc cc T397.heap n0 Zq397 SH SC AC sz hel Ol397 QI397 (by decide) ge366 (by decide) (by decide)) hZ (hw _ (List.mem_of_getElem? (i := 27) rfl)) (hw _ (List.mem_of_getElem? (i := 26) rfl)) (by decide) (by decide)) (g := (mkF m 68 #[.val (.int xo), .val (.ref b365), .val (.int (1 : Int32)), .val (.int (Nat.toInt32 c397))] [(.int (Nat.toInt32 c397)), (.int (6 : Int32)), (.int xo), (.ref b365)])) rfl (by rw [hml]; rfl) (argsL := [(.ref b365), (.int xo), (.int (6 : Int32)), (.int (Nat.toInt32 c397))]) (rest := []) (lenOf own_pd6 rfl) rfl (by show 2 * 0 + _ ≤ _; exact Nat.le_of_eq rfl) (hb hby at_68) (fun _ _ => ⟨rfl, rfl, (by decide : 8 + 1 ≤ _), (by decide : 54 + 8 ≤ _)⟩)
  dsimp only [Pt.U, Pt.locs, Pt.cells, Pt.slots] at X400 l400 y400 z400 st400 hQ400
  subst l400 y400 z400
  obtain ⟨c400, rfl, Nq400, Zq400, Ol400, QI400⟩ := hQ400
  have Nf401 := Fr.app Nf398 Nq400
  have A402 : ∀ t, Steps p.tables e below (T400.setTop (mkF m 77 #[.val (.int xo), .val (.ref b365), .val (.int (1 : Int32)), .val (.int (Nat.toInt32 c400))] [(.int (Nat.toInt32 c400)), (.int (7 : Int32)), (.int xo), (.ref b365)])) t → Steps p.tables e below (s₁.setTop (entryFrame m #[(.int xo)] maxLocals)) t := by
    intro t k
    refine A399 _ ?_
    refine st400 _ ?_
    show Steps p.tables e below (T400.setTop (mkF m 71 #[.val (.int xo), .val (.ref b365), .val (.int (1 : Int32)), .val (.int (Nat.toInt32 c397))] [(.int (Nat.toInt32 c400))])) _
    refine XS.istoreN X400.here hx rfl (hb hby at_71) rfl (l' := #[.val (.int xo), .val (.ref b365), .val (.int (1 : Int32)), .val (.int (Nat.toInt32 c400))]) rfl ?_
    show Steps p.tables e below (T400.setTop (mkF m 72 #[.val (.int xo), .val (.ref b365), .val (.int (1 : Int32)), .val (.int (Nat.toInt32 c400))] [])) _
    refine XS.aloadN X400.here hx rfl (hb hby at_72) rfl rfl ?_
    show Steps p.tables e below (T400.setTop (mkF m 73 #[.val (.int xo), .val (.ref b365), .val (.int (1 : Int32)), .val (.int (Nat.toInt32 c400))] [(.ref b365)])) _
    refine XS.iloadN X400.here hx rfl (hb hby at_73) rfl ?_
    show Steps p.tables e below (T400.setTop (mkF m 74 #[.val (.int xo), .val (.ref b365), .val (.int (1 : Int32)), .val (.int (Nat.toInt32 c400))] [(.int xo), (.ref b365)])) _
    refine XS.bipush X400.here hx rfl (hb hby at_74) ?_
    show Steps p.tables e below (T400.setTop (mkF m 76 #[.val (.int xo), .val (.ref b365), .val (.int (1 : Int32)), .val (.int (Nat.toInt32 c400))] [(.int (7 : Int32)), (.int xo), (.ref b365)])) _
    refine XS.iloadN X400.here hx rfl (hb hby at_76) rfl ?_
    show Steps p.tables e below (T400.setTop (mkF m 77 #[.val (.int xo), .val (.ref b365), .val (.int (1 : Int32)), .val (.int (Nat.toInt32 c400))] [(.int (Nat.toInt32 c400)), (.int (7 : Int32)), (.int xo), (.ref b365)])) _
    exact k
  obtain ⟨_, _, ⟨T403, L403, k403, n403⟩, -, X403, ⟨Lc403, hQ403, l403, y403, z403⟩, st403⟩ := Jvm.LawKit.callS X400 hx (y := (⟨"com/example/fly_agaric/flyagaric/ChunkedQueueIsEmptyPinLaw", "step", "(Lcom/example/fly_agaric/flyagaric/ChunkedQueue;III)I"⟩ : MethodName)) hown (mvT hZ (hw _ (List.mem_of_getElem? (i := 24) rfl))) (mvT hZ (hw _ (List.mem_of_getElem? (i := 25) rfl))) (mvT hZ (hw _ (List.mem_of_getElem? (i := 26) rfl))) (mvT hZ (hw _ (List.mem_of_getElem? (i := 27) rfl))) (by decide) (backOf (W := 0) (own_stp l Z a0 hw [] b365 xo (7 : Int32) 7 c400 vc cc T400.heap n0 Zq400 SH SC AC sz hel Ol400 QI400 (by decide) ge366 (by decide) (by decide)) hZ (hw _ (List.mem_of_getElem? (i := 27) rfl)) (hw _ (List.mem_of_getElem? (i := 26) rfl)) (by decide) (by decide)) (g := (mkF m 77 #[.val (.int xo), .val (.ref b365), .val (.int (1 : Int32)), .val (.int (Nat.toInt32 c400))] [(.int (Nat.toInt32 c400)), (.int (7 : Int32)), (.int xo), (.ref b365)])) rfl (by rw [hml]; rfl) (argsL := [(.ref b365), (.int xo), (.int (7 : Int32)), (.int (Nat.toInt32 c400))]) (rest := []) (lenOf own_pd6 rfl) rfl (by show 2 * 0 + _ ≤ _; exact Nat.le_of_eq rfl) (hb hby at_77) (fun _ _ => ⟨rfl, rfl, (by decide : 9 + 1 ≤ _), (by decide : 62 + 8 ≤ _)⟩)
  dsimp only [Pt.U, Pt.locs, Pt.cells, Pt.slots] at X403 l403 y403 z403 st403 hQ403
  subst l403 y403 z403
  obtain ⟨c403, rfl, Nq403, Zq403, Ol403, QI403⟩ := hQ403
  have Nf404 := Fr.app Nf401 Nq403
  have A405 : ∀ t, Steps p.tables e below (T403.setTop (mkF m 86 #[.val (.int xo), .val (.ref b365), .val (.int (1 : Int32)), .val (.int (Nat.toInt32 c403))] [(.int (Nat.toInt32 c403)), (.int (8 : Int32)), (.int xo), (.ref b365)])) t → Steps p.tables e below (s₁.setTop (entryFrame m #[(.int xo)] maxLocals)) t := by
    intro t k
    refine A402 _ ?_
    refine st403 _ ?_
    show Steps p.tables e below (T403.setTop (mkF m 80 #[.val (.int xo), .val (.ref b365), .val (.int (1 : Int32)), .val (.int (Nat.toInt32 c400))] [(.int (Nat.toInt32 c403))])) _
    refine XS.istoreN X403.here hx rfl (hb hby at_80) rfl (l' := #[.val (.int xo), .val (.ref b365), .val (.int (1 : Int32)), .val (.int (Nat.toInt32 c403))]) rfl ?_
    show Steps p.tables e below (T403.setTop (mkF m 81 #[.val (.int xo), .val (.ref b365), .val (.int (1 : Int32)), .val (.int (Nat.toInt32 c403))] [])) _
    refine XS.aloadN X403.here hx rfl (hb hby at_81) rfl rfl ?_
    show Steps p.tables e below (T403.setTop (mkF m 82 #[.val (.int xo), .val (.ref b365), .val (.int (1 : Int32)), .val (.int (Nat.toInt32 c403))] [(.ref b365)])) _
    refine XS.iloadN X403.here hx rfl (hb hby at_82) rfl ?_
    show Steps p.tables e below (T403.setTop (mkF m 83 #[.val (.int xo), .val (.ref b365), .val (.int (1 : Int32)), .val (.int (Nat.toInt32 c403))] [(.int xo), (.ref b365)])) _
    refine XS.bipush X403.here hx rfl (hb hby at_83) ?_
    show Steps p.tables e below (T403.setTop (mkF m 85 #[.val (.int xo), .val (.ref b365), .val (.int (1 : Int32)), .val (.int (Nat.toInt32 c403))] [(.int (8 : Int32)), (.int xo), (.ref b365)])) _
    refine XS.iloadN X403.here hx rfl (hb hby at_85) rfl ?_
    show Steps p.tables e below (T403.setTop (mkF m 86 #[.val (.int xo), .val (.ref b365), .val (.int (1 : Int32)), .val (.int (Nat.toInt32 c403))] [(.int (Nat.toInt32 c403)), (.int (8 : Int32)), (.int xo), (.ref b365)])) _
    exact k
  obtain ⟨_, _, ⟨T406, L406, k406, n406⟩, -, X406, ⟨Lc406, hQ406, l406, y406, z406⟩, st406⟩ := Jvm.LawKit.callS X403 hx (y := (⟨"com/example/fly_agaric/flyagaric/ChunkedQueueIsEmptyPinLaw", "step", "(Lcom/example/fly_agaric/flyagaric/ChunkedQueue;III)I"⟩ : MethodName)) hown (mvT hZ (hw _ (List.mem_of_getElem? (i := 24) rfl))) (mvT hZ (hw _ (List.mem_of_getElem? (i := 25) rfl))) (mvT hZ (hw _ (List.mem_of_getElem? (i := 26) rfl))) (mvT hZ (hw _ (List.mem_of_getElem? (i := 27) rfl))) (by decide) (backOf (W := 0) (own_stp l Z a0 hw [] b365 xo (8 : Int32) 8 c403 vc cc T403.heap n0 Zq403 SH SC AC sz hel Ol403 QI403 (by decide) ge366 (by decide) (by decide)) hZ (hw _ (List.mem_of_getElem? (i := 27) rfl)) (hw _ (List.mem_of_getElem? (i := 26) rfl)) (by decide) (by decide)) (g := (mkF m 86 #[.val (.int xo), .val (.ref b365), .val (.int (1 : Int32)), .val (.int (Nat.toInt32 c403))] [(.int (Nat.toInt32 c403)), (.int (8 : Int32)), (.int xo), (.ref b365)])) rfl (by rw [hml]; rfl) (argsL := [(.ref b365), (.int xo), (.int (8 : Int32)), (.int (Nat.toInt32 c403))]) (rest := []) (lenOf own_pd6 rfl) rfl (by show 2 * 0 + _ ≤ _; exact Nat.le_of_eq rfl) (hb hby at_86) (fun _ _ => ⟨rfl, rfl, (by decide : 10 + 1 ≤ _), (by decide : 70 + 8 ≤ _)⟩)
  dsimp only [Pt.U, Pt.locs, Pt.cells, Pt.slots] at X406 l406 y406 z406 st406 hQ406
  subst l406 y406 z406
  obtain ⟨c406, rfl, Nq406, Zq406, Ol406, QI406⟩ := hQ406
  have Nf407 := Fr.app Nf404 Nq406
  have A408 : ∀ t, Steps p.tables e below (T406.setTop (mkF m 95 #[.val (.int xo), .val (.ref b365), .val (.int (1 : Int32)), .val (.int (Nat.toInt32 c406))] [(.int (Nat.toInt32 c406)), (.int (9 : Int32)), (.int xo), (.ref b365)])) t → Steps p.tables e below (s₁.setTop (entryFrame m #[(.int xo)] maxLocals)) t := by
    intro t k
    refine A405 _ ?_
    refine st406 _ ?_
    show Steps p.tables e below (T406.setTop (mkF m 89 #[.val (.int xo), .val (.ref b365), .val (.int (1 : Int32)), .val (.int (Nat.toInt32 c403))] [(.int (Nat.toInt32 c406))])) _
    refine XS.istoreN X406.here hx rfl (hb hby at_89) rfl (l' := #[.val (.int xo), .val (.ref b365), .val (.int (1 : Int32)), .val (.int (Nat.toInt32 c406))]) rfl ?_
    show Steps p.tables e below (T406.setTop (mkF m 90 #[.val (.int xo), .val (.ref b365), .val (.int (1 : Int32)), .val (.int (Nat.toInt32 c406))] [])) _
    refine XS.aloadN X406.here hx rfl (hb hby at_90) rfl rfl ?_
    show Steps p.tables e below (T406.setTop (mkF m 91 #[.val (.int xo), .val (.ref b365), .val (.int (1 : Int32)), .val (.int (Nat.toInt32 c406))] [(.ref b365)])) _
    refine XS.iloadN X406.here hx rfl (hb hby at_91) rfl ?_
    show Steps p.tables e below (T406.setTop (mkF m 92 #[.val (.int xo), .val (.ref b365), .val (.int (1 : Int32)), .val (.int (Nat.toInt32 c406))] [(.int xo), (.ref b365)])) _
    refine XS.bipush X406.here hx rfl (hb hby at_92) ?_
    show Steps p.tables e below (T406.setTop (mkF m 94 #[.val (.int xo), .val (.ref b365), .val (.int (1 : Int32)), .val (.int (Nat.toInt32 c406))] [(.int (9 : Int32)), (.int xo), (.ref b365)])) _
    refine XS.iloadN X406.here hx rfl (hb hby at_94) rfl ?_
    show Steps p.tables e below (T406.setTop (mkF m 95 #[.val (.int xo), .val (.ref b365), .val (.int (1 : Int32)), .val (.int (Nat.toInt32 c406))] [(.int (Nat.toInt32 c406)), (.int (9 : Int32)), (.int xo), (.ref b365)])) _
    exact k
  obtain ⟨_, _, ⟨T409, L409, k409, n409⟩, -, X409, ⟨Lc409, hQ409, l409, y409, z409⟩, st409⟩ := Jvm.LawKit.callS X406 hx (y := (⟨"com/example/fly_agaric/flyagaric/ChunkedQueueIsEmptyPinLaw", "step", "(Lcom/example/fly_agaric/flyagaric/ChunkedQueue;III)I"⟩ : MethodName)) hown (mvT hZ (hw _ (List.mem_of_getElem? (i := 24) rfl))) (mvT hZ (hw _ (List.mem_of_getElem? (i := 25) rfl))) (mvT hZ (hw _ (List.mem_of_getElem? (i := 26) rfl))) (mvT hZ (hw _ (List.mem_of_getElem? (i := 27) rfl))) (by decide) (backOf (W := 0) (own_stp l Z a0 hw [] b365 xo (9 : Int32) 9 c406 vc cc T406.heap n0 Zq406 SH SC AC sz hel Ol406 QI406 (by decide) ge366 (by decide) (by decide)) hZ (hw _ (List.mem_of_getElem? (i := 27) rfl)) (hw _ (List.mem_of_getElem? (i := 26) rfl)) (by decide) (by decide)) (g := (mkF m 95 #[.val (.int xo), .val (.ref b365), .val (.int (1 : Int32)), .val (.int (Nat.toInt32 c406))] [(.int (Nat.toInt32 c406)), (.int (9 : Int32)), (.int xo), (.ref b365)])) rfl (by rw [hml]; rfl) (argsL := [(.ref b365), (.int xo), (.int (9 : Int32)), (.int (Nat.toInt32 c406))]) (rest := []) (lenOf own_pd6 rfl) rfl (by show 2 * 0 + _ ≤ _; exact Nat.le_of_eq rfl) (hb hby at_95) (fun _ _ => ⟨rfl, rfl, (by decide : 11 + 1 ≤ _), (by decide : 78 + 8 ≤ _)⟩)
  dsimp only [Pt.U, Pt.locs, Pt.cells, Pt.slots] at X409 l409 y409 z409 st409 hQ409
  subst l409 y409 z409
  obtain ⟨c409, rfl, Nq409, Zq409, Ol409, QI409⟩ := hQ409
  have Nf410 := Fr.app Nf407 Nq409
  have A411 : ∀ t, Steps p.tables e below (T409.setTop (mkF m 98 #[.val (.int xo), .val (.ref b365), .val (.int (1 : Int32)), .val (.int (Nat.toInt32 c406))] [(.int (Nat.toInt32 c409))])) t → Steps p.tables e below (s₁.setTop (entryFrame m #[(.int xo)] maxLocals)) t := by
    intro t k
    refine A408 _ ?_
    refine st409 _ ?_
    show Steps p.tables e below (T409.setTop (mkF m 98 #[.val (.int xo), .val (.ref b365), .val (.int (1 : Int32)), .val (.int (Nat.toInt32 c406))] [(.int (Nat.toInt32 c409))])) _
    exact k
  have hfin : ¬ (Nat.toInt32 c409) < (0 : Int32) := by
    obtain ⟨_, _, _, _, _, _, _, QE, he⟩ := QI409
    have := QE.2.2.2.2.2.2.2
    exact own_nn (by omega)
  have A412 : ∀ t, Steps p.tables e below (T409.setTop (mkF m 112 #[.val (.int xo), .val (.ref b365), .val (.int (1 : Int32)), .val (.int (Nat.toInt32 c409))] [(.int (1 : Int32))])) t → Steps p.tables e below (s₁.setTop (entryFrame m #[(.int xo)] maxLocals)) t := by
    intro t k
    refine A411 _ ?_
    refine XS.istoreN X409.here hx rfl (hb hby at_98) rfl (l' := #[.val (.int xo), .val (.ref b365), .val (.int (1 : Int32)), .val (.int (Nat.toInt32 c409))]) rfl ?_
    show Steps p.tables e below (T409.setTop (mkF m 99 #[.val (.int xo), .val (.ref b365), .val (.int (1 : Int32)), .val (.int (Nat.toInt32 c409))] [])) _
    refine XS.iloadN X409.here hx rfl (hb hby at_99) rfl ?_
    show Steps p.tables e below (T409.setTop (mkF m 100 #[.val (.int xo), .val (.ref b365), .val (.int (1 : Int32)), .val (.int (Nat.toInt32 c409))] [(.int (1 : Int32))])) _
    refine XS.ifNo X409.here hx rfl (hb hby at_100) rfl ((if0 _ _).trans (feq (by decide : ¬ ((1 : Int32) = (0 : Int32)))).1) ?_
    show Steps p.tables e below (T409.setTop (mkF m 103 #[.val (.int xo), .val (.ref b365), .val (.int (1 : Int32)), .val (.int (Nat.toInt32 c409))] [])) _
    refine XS.iloadN X409.here hx rfl (hb hby at_103) rfl ?_
    show Steps p.tables e below (T409.setTop (mkF m 104 #[.val (.int xo), .val (.ref b365), .val (.int (1 : Int32)), .val (.int (Nat.toInt32 c409))] [(.int (Nat.toInt32 c409))])) _
    refine XS.ifNo X409.here hx rfl (hb hby at_104) rfl ((if0 _ _).trans (flt hfin).1) ?_
    show Steps p.tables e below (T409.setTop (mkF m 107 #[.val (.int xo), .val (.ref b365), .val (.int (1 : Int32)), .val (.int (Nat.toInt32 c409))] [])) _
    refine XS.iconst X409.here hx rfl (hb hby at_107) ?_
    show Steps p.tables e below (T409.setTop (mkF m 108 #[.val (.int xo), .val (.ref b365), .val (.int (1 : Int32)), .val (.int (Nat.toInt32 c409))] [(.int (1 : Int32))])) _
    refine XS.goto X409.here hx rfl (pc0 := 108) (pc' := 112) rfl (hb hby at_108) (by decide) (by decide) ?_
    show Steps p.tables e below (T409.setTop (mkF m 112 #[.val (.int xo), .val (.ref b365), .val (.int (1 : Int32)), .val (.int (Nat.toInt32 c409))] [(.int (1 : Int32))])) _
    exact k
  obtain ⟨fs, hr, hrun, hended, hW, hsame⟩ := X409.leave (v := some (.int (1 : Int32))) (fun h => by rw [Bd.returns] at h; cases h)
  refine ⟨_, _, A412 _ ?_, hrun, hended, _, _, rfl, ?_, ⟨_, rfl⟩, hW, hsame.mono (by decide) (by decide)⟩
  · exact retN X409 hx (t := .boolean) Bd.returns (by simp) (hb hby at_112) hr
  · show own_Q0 Z xo h0 n0 _ T409.heap _
    exact ⟨rfl, Nf410⟩
set_option maxRecDepth 65536 in
set_option maxHeartbeats 40000000 in
theorem comes_1 {Post : Tables → Env → Array Value → State → Outcome → State → Prop} (hpost : ∀ tb e args s v u, (limb_1_1.after args s (.returned v) u = true ∧ limb_1_2.after args s (.returned v) u = true ∧ True) → FrameEnd s (.returned v) u (Jvm.fieldLocs frame_1_writes args s ++ Jvm.arrayLocs frame_1_arrays args s ++ Jvm.staticLocs frame_1_statics s) 16 128 → Post tb e args s (.returned v) u) :
    ArmFor flags0 classFile x code maxLocals ret World_1 tables_1 room_1 Calls_1 rest_1 Pre_1 Post := by
  intro l hfl _ _ p e ha hc hk s m args below hf hA hF happ hP
  obtain ⟨hcalls, hrest, hpre⟩ := hP
  obtain ⟨-, -, -, hnamed, -, -, -, hat⟩ := (Spec.applies_iff hf).mp happ
  obtain ⟨hg, hn⟩ := and_e (Cond.before_iff.mp (show (Jvm.Cond.and given_1 narrow_1).before args s = true from hpre))
  obtain ⟨hcount, hg⟩ := and_e hg
  have ga0 := hg
  obtain ⟨w0, rfl⟩ : ∃ w0 : Value, args = #[w0] := by
    have hs : args.size = 1 := by simpa [Cond.value, given_1] using hcount
    obtain ⟨L⟩ := args
    match L, hs with
    | [w0], _ => exact ⟨w0, rfl⟩
  have hw := fun d (hd : d ∈ tables_1) => atoms_spec (ws := Jvm.Cond.code x code maxLocals ret :: tables_1) hat d (List.mem_cons_of_mem _ hd)
  have hfit : Fit s := fun {y c} hc i hi => by
    obtain ⟨ha, rfl⟩ := Array.getElem?_eq_some_iff.mp hc
    have q := List.all_eq_true.mp ((Array.all_eq_true_iff_forall_mem.mp hF) _ (Array.getElem_mem ha)) i (List.mem_range.mpr hi)
    simpa [Array.getElem?_eq_getElem hi] using q
  obtain ⟨hsets, hown0⟩ := atoms_of _ (rest_1_c_eq ▸ (show rest_1_c.before _ s = true from hrest))
  obtain ⟨i0, ei0⟩ := is_v ga0
  obtain rfl : w0 = (.int i0) := Option.some.inj ei0
  have SH := Sta.start (Cond.eq_int (hsets _ (List.mem_of_getElem? (i := 3) rfl)) rfl) (Or.inl (hsets _ (List.mem_of_getElem? (i := 1) rfl)))
  obtain ⟨vc, evc⟩ := arr_v (Cond.before_iff.mp (hsets _ (List.mem_of_getElem? (i := 4) rfl)))
  obtain ⟨cc, AC⟩ := Arr.start evc (Cond.before_iff.mp (hsets _ (List.mem_of_getElem? (i := 4) rfl)))
  have SC := Sta.start evc (Or.inr ⟨(hw _ (List.mem_of_getElem? (i := 44) rfl)), (hsets _ (List.mem_of_getElem? (i := 2) rfl))⟩)
  have hal := (State.Warmed39.refl s).alike
  have hatc := Arr.fin hal AC
  obtain ⟨hl31, hl256⟩ := own_len evc hatc (Cond.eq_int (hsets _ (List.mem_of_getElem? (i := 6) rfl)) rfl)
  have sz : cc.slots.size = 256 := by
    have q := congrArg Int32.toInt hl256
    rw [len_toInt hl31, show (256 : Int32).toInt = 256 from rfl] at q
    omega
  have hel : ∀ j : Int32, ¬ (j < 0 ∨ cc.slots.size ≤ j.toNatClampNeg) → ∃ r : Addr, cc.slots[j.toNatClampNeg]? = some (.ref r) ∧ Exa s s.heap r "java/lang/Integer" := by
    intro j hj
    have hj0 : ¬ j < 0 := fun q => hj (Or.inl q)
    have hs2 : j.toNatClampNeg < cc.slots.size := Nat.lt_of_not_le fun y => hj (Or.inr y)
    have h1 := (and_e (Cond.all_elim evc hatc (Cond.before_iff.mp (hsets _ (List.mem_of_getElem? (i := 7) rfl))) _ hs2)).1
    obtain ⟨r, er⟩ := exa_v h1
    exact ⟨r, (elem_f (a := Term.index 0) (by exact evc) (idx_at hj0) hatc hj0).symm.trans er, exa_at er h1⟩
  obtain ⟨n, o, h1, h2, h3, _, L, rfl, ⟨rfl, N⟩, hq⟩ := own_law l s _ hw tables_1 i0 vc cc s.heap s.heap.size (Nat.le_refl _) SH SC AC sz hel (Old.start s) p e ha hc hk s m _ below hf ((Spec.applies_iff_loose hf).mp happ).1 ⟨rfl, State.Warmed39.refl s, rfl⟩ trivial
  refine ⟨n, _, h1, h2, h3, hpost _ _ _ _ _ _ ⟨Cond.after_iff.mpr rfl, Cond.after_iff.mpr (eq_i res_at (Term.int_eval (1)) rfl), trivial⟩ ⟨hq.1, hq.2.1, (hq.2.2.sift fun y hy => Or.inr (N y hy)).mono (by decide) (by decide)⟩⟩
theorem main_1_1 : Claimed_1_1 := comes_1 fun _ _ _ _ _ _ h hF => ⟨h.1, hF⟩
theorem main_1_2 : Claimed_1_2 := comes_1 fun _ _ _ _ _ _ h hF => ⟨h.2.1, hF⟩
end Jvm.Pilot.@@N@@
namespace Jvm.Pilot.@@N@@
open Jvm Jvm.ClassFile Sem Op Lib Jvm.Free Jvm.Stand Jvm.Pilot.@@N@@.Jvm.D
/-! MADE BY PROGRAM (witnessworld.py) out of the Statement's table words and the real class files: 18 classes; the members and pool entries that the words name. The judged class is class 1, her method 2. -/
namespace start1
open Jvm.ClassFile
def u (s : String) : CpInfo := .utf8 (stringToUtf16 s)
/-- a pool by its gaps: so many unusable entries, then the entry; so many at the end -/
def gap : Nat → List CpInfo → List CpInfo
  | 0, r => r
  | n + 1, r => .unusable :: gap n r
def poolList (es : List (Nat × CpInfo)) (last : Nat) : List CpInfo := es.foldr (fun e r => gap e.1 (e.2 :: r)) (gap last [])
def pool (es : List (Nat × CpInfo)) (last : Nat) : Array CpInfo := ⟨poolList es last⟩
def fileOf (pool : Array CpInfo) (this : Nat) (attrs : Array Attribute := #[]) (ms : Array MethodInfo := #[]) (fl : Nat := 33) (sup : Nat := 0) (ifs : Array Nat := #[]) (fds : Array FieldInfo := #[]) : ClassFile where
  minorVersion := 0
  majorVersion := 65
  constantPool := pool
  accessFlags := fl
  thisClass := this
  superClass := sup
  interfaces := ifs
  fields := fds
  methods := ms
  attributes := attrs
def plain (name : String) (sup : Option ClassId) : Class where
  name := name
  kind := .ordinary
  loader := none
  accessFlags := 33
  super := sup
  interfaces := #[]
  cf := none
  fields := #[]
  methods := #[]
  instanceTypes := #[]
  staticTypes := #[]
  resolved := #[]
  callSites := []
  init := .initialized
  statics := none
  mirror := none

def pool0 : Array CpInfo := pool [(5, u "<init>"), (0, u "()V"), (1, .class_ 10), (1, u "java/lang/Object")] 113

def k0c0 : Code := { maxStack := 0, maxLocals := 1, code := object_method_1_code, exceptionTable := #[], attributes := #[] }
def k0m0 : Method := { name := "<init>", desc := "()V", sig := { parameters := [], returnType := none }, accessFlags := 1, code := some k0c0 }
/-- java/lang/Object -/
def k0 : Class := { plain "java/lang/Object" none with
  accessFlags := 33
  interfaces := #[]
  cf := some (fileOf pool0 8 #[] #[{ accessFlags := 1, nameIndex := 5, descriptorIndex := 6, attributes := #[] }] 33 0 #[] #[])
  fields := #[]
  methods := #[k0m0]
  instanceTypes := #[]
  staticTypes := #[]
  resolved := Array.replicate 124 none
  statics := none }

def pool1 : Array CpInfo := pool [(2, .class_ 4), (0, .nameAndType 5 6), (0, u "java/lang/Object"), (0, u "<init>"), (0, u "()V"), (0, .methodref 8 9), (0, .class_ 10), (0, .nameAndType 11 12), (0, u "java/lang/Integer"), (0, u "valueOf"), (0, u "(I)Ljava/lang/Integer;"), (0, .methodref 14 15), (0, .class_ 16), (0, .nameAndType 17 18), (0, u "com/example/fly_agaric/flyagaric/ChunkedQueue"), (0, u "add"), (0, u "(Ljava/lang/Object;)V"), (0, .methodref 14 20), (0, .nameAndType 21 22), (0, u "poll"), (0, u "()Ljava/lang/Object;"), (0, .methodref 14 24), (0, .nameAndType 25 26), (0, u "isEmpty"), (0, u "()Z"), (0, .methodref 14 3), (0, .methodref 29 30), (0, .class_ 31), (0, .nameAndType 32 33), (0, u "com/example/fly_agaric/flyagaric/ChunkedQueueIsEmptyPinLaw"), (0, u "step"), (0, u "(Lcom/example/fly_agaric/flyagaric/ChunkedQueue;III)I"), (5, u "law"), (0, u "(I)Z")] 2

def k1m0 : Method := { name := "<init>", desc := "()V", sig := { parameters := [], returnType := none }, accessFlags := 1, code := none }
def k1c1 : Code := { maxStack := 2, maxLocals := 6, code := method_2_code, exceptionTable := #[], attributes := #[] }
def k1m1 : Method := { name := "step", desc := "(Lcom/example/fly_agaric/flyagaric/ChunkedQueue;III)I", sig := { parameters := [(.object "com/example/fly_agaric/flyagaric/ChunkedQueue"), .int, .int, .int], returnType := some .int }, accessFlags := 10, code := some k1c1 }
def k1c2 : Code := { maxStack := 4, maxLocals := 4, code := code, exceptionTable := #[], attributes := #[] }
def k1m2 : Method := { name := "law", desc := "(I)Z", sig := { parameters := [.int], returnType := some .boolean }, accessFlags := 9, code := some k1c2 }
/-- com/example/fly_agaric/flyagaric/ChunkedQueueIsEmptyPinLaw -/
def k1 : Class := { plain "com/example/fly_agaric/flyagaric/ChunkedQueueIsEmptyPinLaw" (some 0) with
  accessFlags := 49
  interfaces := #[]
  cf := some (fileOf pool1 29 #[] #[{ accessFlags := 1, nameIndex := 5, descriptorIndex := 6, attributes := #[] }, { accessFlags := 10, nameIndex := 32, descriptorIndex := 33, attributes := #[] }, { accessFlags := 9, nameIndex := 39, descriptorIndex := 40, attributes := #[] }] 49 2 #[] #[])
  fields := #[]
  methods := #[k1m0, k1m1, k1m2]
  instanceTypes := #[]
  staticTypes := #[]
  resolved := Array.replicate 43 none
  statics := none }

def pool2 : Array CpInfo := pool [(1, .methodref 2 3), (0, .class_ 4), (0, .nameAndType 5 6), (0, u "java/lang/Object"), (0, u "<init>"), (0, u "()V"), (0, .class_ 8), (0, u "com/example/fly_agaric/flyagaric/ChunkedQueue"), (0, .fieldref 7 10), (0, .nameAndType 11 12), (0, u "head"), (0, u "[Ljava/lang/Object;"), (0, .fieldref 7 14), (0, .nameAndType 15 12), (0, u "tail"), (0, .fieldref 7 17), (0, .nameAndType 18 19), (0, u "headAt"), (0, u "I"), (0, .fieldref 7 21), (0, .nameAndType 22 19), (0, u "tailAt"), (0, .methodref 24 25), (0, .class_ 26), (0, .nameAndType 27 28), (0, u "java/lang/Math"), (0, u "min"), (0, u "(II)I"), (0, .methodref 7 30), (0, .nameAndType 31 32), (0, u "isEmpty"), (0, u "()Z"), (0, .methodref 7 34), (0, .nameAndType 35 36), (0, u "peek"), (0, u "()Ljava/lang/Object;"), (0, .class_ 12), (0, u "FIRST_CHUNK"), (2, u "LAST_CHUNK"), (4, u "add"), (0, u "(Ljava/lang/Object;)V"), (4, u "poll")] 3

def k2c0 : Code := { maxStack := 2, maxLocals := 1, code := prog_9_method_1_code, exceptionTable := #[], attributes := #[] }
def k2m0 : Method := { name := "<init>", desc := "()V", sig := { parameters := [], returnType := none }, accessFlags := 0, code := some k2c0 }
def k2c1 : Code := { maxStack := 2, maxLocals := 1, code := prog_9_method_2_code, exceptionTable := #[], attributes := #[] }
def k2m1 : Method := { name := "isEmpty", desc := "()Z", sig := { parameters := [], returnType := some .boolean }, accessFlags := 0, code := some k2c1 }
def k2c2 : Code := { maxStack := 5, maxLocals := 4, code := prog_9_method_3_code, exceptionTable := #[], attributes := #[] }
def k2m2 : Method := { name := "add", desc := "(Ljava/lang/Object;)V", sig := { parameters := [(.object "java/lang/Object")], returnType := none }, accessFlags := 0, code := some k2c2 }
def k2c3 : Code := { maxStack := 2, maxLocals := 1, code := prog_9_method_4_code, exceptionTable := #[], attributes := #[] }
def k2m3 : Method := { name := "peek", desc := "()Ljava/lang/Object;", sig := { parameters := [], returnType := some (.object "java/lang/Object") }, accessFlags := 0, code := some k2c3 }
def k2c4 : Code := { maxStack := 5, maxLocals := 2, code := prog_9_method_6_code, exceptionTable := #[], attributes := #[] }
def k2m4 : Method := { name := "poll", desc := "()Ljava/lang/Object;", sig := { parameters := [], returnType := some (.object "java/lang/Object") }, accessFlags := 0, code := some k2c4 }
/-- com/example/fly_agaric/flyagaric/ChunkedQueue -/
def k2 : Class := { plain "com/example/fly_agaric/flyagaric/ChunkedQueue" (some 0) with
  accessFlags := 48
  interfaces := #[]
  cf := some (fileOf pool2 7 #[] #[{ accessFlags := 0, nameIndex := 5, descriptorIndex := 6, attributes := #[] }, { accessFlags := 0, nameIndex := 31, descriptorIndex := 32, attributes := #[] }, { accessFlags := 0, nameIndex := 46, descriptorIndex := 47, attributes := #[] }, { accessFlags := 0, nameIndex := 35, descriptorIndex := 36, attributes := #[] }, { accessFlags := 0, nameIndex := 52, descriptorIndex := 36, attributes := #[] }] 48 2 #[] #[{ accessFlags := 26, nameIndex := 38, descriptorIndex := 19, attributes := #[] }, { accessFlags := 26, nameIndex := 41, descriptorIndex := 19, attributes := #[] }, { accessFlags := 2, nameIndex := 11, descriptorIndex := 12, attributes := #[] }, { accessFlags := 2, nameIndex := 18, descriptorIndex := 19, attributes := #[] }, { accessFlags := 2, nameIndex := 15, descriptorIndex := 12, attributes := #[] }, { accessFlags := 2, nameIndex := 22, descriptorIndex := 19, attributes := #[] }])
  fields := #[{ name := "FIRST_CHUNK", type := .int, accessFlags := 26, slot := 0, constantValue := 0 }, { name := "LAST_CHUNK", type := .int, accessFlags := 26, slot := 1, constantValue := 0 }, { name := "head", type := (.array (.object "java/lang/Object")), accessFlags := 2, slot := 0, constantValue := 0 }, { name := "headAt", type := .int, accessFlags := 2, slot := 1, constantValue := 0 }, { name := "tail", type := (.array (.object "java/lang/Object")), accessFlags := 2, slot := 2, constantValue := 0 }, { name := "tailAt", type := .int, accessFlags := 2, slot := 3, constantValue := 0 }]
  methods := #[k2m0, k2m1, k2m2, k2m3, k2m4]
  instanceTypes := #[(.array (.object "java/lang/Object")), .int, (.array (.object "java/lang/Object")), .int]
  staticTypes := #[.int, .int]
  resolved := Array.replicate 56 none
  statics := none }

def pool3 : Array CpInfo := pool [(1, .class_ 2), (0, u "java/io/Serializable"), (0, .class_ 4), (0, u "java/lang/Object")] 2

/-- java/io/Serializable -/
def k3 : Class := { plain "java/io/Serializable" (some 0) with
  accessFlags := 1537
  interfaces := #[]
  cf := some (fileOf pool3 1 #[] #[] 1537 3 #[] #[])
  fields := #[]
  methods := #[]
  instanceTypes := #[]
  staticTypes := #[]
  resolved := Array.replicate 7 none
  statics := none }

def pool4 : Array CpInfo := pool [(2, .class_ 4), (1, u "java/lang/Object"), (0, u "<init>"), (0, u "()V"), (1, .class_ 10), (1, u "java/lang/Number"), (2, .class_ 14), (0, u "java/io/Serializable"), (0, u "serialVersionUID"), (0, u "J")] 20

def k4m0 : Method := { name := "<init>", desc := "()V", sig := { parameters := [], returnType := none }, accessFlags := 1, code := none }
/-- java/lang/Number -/
def k4 : Class := { plain "java/lang/Number" (some 0) with
  accessFlags := 1057
  interfaces := #[3]
  cf := some (fileOf pool4 8 #[] #[{ accessFlags := 1, nameIndex := 5, descriptorIndex := 6, attributes := #[] }] 1057 2 #[13] #[{ accessFlags := 26, nameIndex := 15, descriptorIndex := 16, attributes := #[] }])
  fields := #[{ name := "serialVersionUID", type := .long, accessFlags := 26, slot := 0, constantValue := 0 }]
  methods := #[k4m0]
  instanceTypes := #[]
  staticTypes := #[.long]
  resolved := Array.replicate 37 none
  statics := none }

def pool5 : Array CpInfo := pool [(1, .class_ 2), (0, u "java/lang/Comparable"), (0, .class_ 4), (0, u "java/lang/Object")] 7

/-- java/lang/Comparable -/
def k5 : Class := { plain "java/lang/Comparable" (some 0) with
  accessFlags := 1537
  interfaces := #[]
  cf := some (fileOf pool5 1 #[] #[] 1537 3 #[] #[])
  fields := #[]
  methods := #[]
  instanceTypes := #[]
  staticTypes := #[]
  resolved := Array.replicate 12 none
  statics := none }

def pool6 : Array CpInfo := pool [(1, .class_ 2), (0, u "java/lang/constant/Constable"), (0, .class_ 4), (0, u "java/lang/Object")] 6

/-- java/lang/constant/Constable -/
def k6 : Class := { plain "java/lang/constant/Constable" (some 0) with
  accessFlags := 1537
  interfaces := #[]
  cf := some (fileOf pool6 1 #[] #[] 1537 3 #[] #[])
  fields := #[]
  methods := #[]
  instanceTypes := #[]
  staticTypes := #[]
  resolved := Array.replicate 11 none
  statics := none }

def pool7 : Array CpInfo := pool [(1, .class_ 2), (0, u "java/lang/constant/ConstantDesc"), (0, .class_ 4), (0, u "java/lang/Object")] 32

/-- java/lang/constant/ConstantDesc -/
def k7 : Class := { plain "java/lang/constant/ConstantDesc" (some 0) with
  accessFlags := 1537
  interfaces := #[]
  cf := some (fileOf pool7 1 #[] #[] 1537 3 #[] #[])
  fields := #[]
  methods := #[]
  instanceTypes := #[]
  staticTypes := #[]
  resolved := Array.replicate 37 none
  statics := none }

def pool8 : Array CpInfo := pool [(1, .class_ 2), (0, u "java/lang/Integer"), (16, u "digits"), (0, u "[C"), (64, u "DigitOnes"), (0, u "[B"), (2, u "DigitTens"), (97, u "valueOf"), (0, u "(I)Ljava/lang/Integer;"), (0, .class_ 190), (0, u "java/lang/Integer$IntegerCache"), (0, .fieldref 189 192), (0, .nameAndType 193 194), (0, u "high"), (0, u "I"), (0, .fieldref 189 196), (0, .nameAndType 197 198), (0, u "cache"), (0, u "[Ljava/lang/Integer;"), (4, .class_ 204), (0, u "java/lang/Number"), (2, u "value"), (94, u "TYPE"), (0, u "Ljava/lang/Class;"), (0, .class_ 305), (0, u "java/lang/Comparable"), (0, .class_ 307), (0, u "java/lang/constant/Constable"), (0, .class_ 309), (0, u "java/lang/constant/ConstantDesc"), (0, u "MIN_VALUE"), (1, u "MAX_VALUE"), (3, u "SIZE"), (1, u "BYTES"), (1, u "serialVersionUID"), (0, u "J")] 131

def k8c0 : Code := { maxStack := 3, maxLocals := 1, code := jdk_33_method_22_code, exceptionTable := #[], attributes := #[] }
def k8m0 : Method := { name := "valueOf", desc := "(I)Ljava/lang/Integer;", sig := { parameters := [.int], returnType := some (.object "java/lang/Integer") }, accessFlags := 9, code := some k8c0 }
/-- java/lang/Integer -/
def k8 : Class := { plain "java/lang/Integer" (some 4) with
  accessFlags := 49
  interfaces := #[5, 6, 7]
  cf := some (fileOf pool8 1 #[.nestMembers #[189]] #[{ accessFlags := 9, nameIndex := 187, descriptorIndex := 188, attributes := #[] }] 49 203 #[304, 306, 308] #[{ accessFlags := 25, nameIndex := 310, descriptorIndex := 194, attributes := #[] }, { accessFlags := 25, nameIndex := 312, descriptorIndex := 194, attributes := #[] }, { accessFlags := 25, nameIndex := 302, descriptorIndex := 303, attributes := #[] }, { accessFlags := 24, nameIndex := 19, descriptorIndex := 20, attributes := #[] }, { accessFlags := 24, nameIndex := 89, descriptorIndex := 86, attributes := #[] }, { accessFlags := 24, nameIndex := 85, descriptorIndex := 86, attributes := #[] }, { accessFlags := 18, nameIndex := 207, descriptorIndex := 194, attributes := #[] }, { accessFlags := 25, nameIndex := 316, descriptorIndex := 194, attributes := #[] }, { accessFlags := 25, nameIndex := 318, descriptorIndex := 194, attributes := #[] }, { accessFlags := 26, nameIndex := 320, descriptorIndex := 321, attributes := #[] }])
  fields := #[{ name := "MIN_VALUE", type := .int, accessFlags := 25, slot := 0, constantValue := 0 }, { name := "MAX_VALUE", type := .int, accessFlags := 25, slot := 1, constantValue := 0 }, { name := "TYPE", type := (.object "java/lang/Class"), accessFlags := 25, slot := 2, constantValue := 0 }, { name := "digits", type := (.array .char), accessFlags := 24, slot := 3, constantValue := 0 }, { name := "DigitTens", type := (.array .byte), accessFlags := 24, slot := 4, constantValue := 0 }, { name := "DigitOnes", type := (.array .byte), accessFlags := 24, slot := 5, constantValue := 0 }, { name := "value", type := .int, accessFlags := 18, slot := 0, constantValue := 0 }, { name := "SIZE", type := .int, accessFlags := 25, slot := 6, constantValue := 0 }, { name := "BYTES", type := .int, accessFlags := 25, slot := 7, constantValue := 0 }, { name := "serialVersionUID", type := .long, accessFlags := 26, slot := 8, constantValue := 0 }]
  methods := #[k8m0]
  instanceTypes := #[.int]
  staticTypes := #[.int, .int, (.object "java/lang/Class"), (.array .char), (.array .byte), (.array .byte), .int, .int, .long]
  resolved := Array.replicate 453 none
  statics := none }

def pool9 : Array CpInfo := pool [(2, .class_ 4), (1, u "java/lang/Object"), (0, u "<init>"), (0, u "()V"), (0, .class_ 8), (0, u "java/lang/Integer"), (7, .class_ 18), (1, u "java/lang/Integer$IntegerCache"), (0, u "$assertionsDisabled"), (0, u "Z"), (26, u "high"), (0, u "I"), (8, u "archivedCache"), (0, u "[Ljava/lang/Integer;"), (12, u "cache"), (0, u "low")] 27

def k9m0 : Method := { name := "<init>", desc := "()V", sig := { parameters := [], returnType := none }, accessFlags := 2, code := none }
/-- java/lang/Integer$IntegerCache -/
def k9 : Class := { plain "java/lang/Integer$IntegerCache" (some 0) with
  accessFlags := 48
  interfaces := #[]
  cf := some (fileOf pool9 16 #[.nestHost 7] #[{ accessFlags := 2, nameIndex := 5, descriptorIndex := 6, attributes := #[] }] 48 2 #[] #[{ accessFlags := 24, nameIndex := 72, descriptorIndex := 48, attributes := #[] }, { accessFlags := 24, nameIndex := 47, descriptorIndex := 48, attributes := #[] }, { accessFlags := 24, nameIndex := 71, descriptorIndex := 58, attributes := #[] }, { accessFlags := 8, nameIndex := 57, descriptorIndex := 58, attributes := #[] }, { accessFlags := 4120, nameIndex := 19, descriptorIndex := 20, attributes := #[] }])
  fields := #[{ name := "low", type := .int, accessFlags := 24, slot := 0, constantValue := 0 }, { name := "high", type := .int, accessFlags := 24, slot := 1, constantValue := 0 }, { name := "cache", type := (.array (.object "java/lang/Integer")), accessFlags := 24, slot := 2, constantValue := 0 }, { name := "archivedCache", type := (.array (.object "java/lang/Integer")), accessFlags := 8, slot := 3, constantValue := 0 }, { name := "$assertionsDisabled", type := .boolean, accessFlags := 4120, slot := 4, constantValue := 0 }]
  methods := #[k9m0]
  instanceTypes := #[]
  staticTypes := #[.int, .int, (.array (.object "java/lang/Integer")), (.array (.object "java/lang/Integer")), .boolean]
  resolved := Array.replicate 100 none
  statics := some 0 }

def pool10 : Array CpInfo := pool [(1, .class_ 2), (0, u "java/lang/Math"), (1, .class_ 6), (1, u "java/lang/Object"), (0, u "<init>"), (0, u "()V"), (89, .class_ 100), (1, u "java/lang/Math$RandomNumberGeneratorHolder"), (71, u "negativeZeroFloatBits"), (0, u "J"), (2, u "negativeZeroDoubleBits"), (24, u "min"), (43, u "$assertionsDisabled"), (0, u "Z"), (88, u "(II)I"), (2, u "twoToTheDoubleScaleDown"), (0, u "D"), (4, u "twoToTheDoubleScaleUp"), (9, u "E"), (3, u "PI"), (2, u "TAU"), (2, u "DEGREES_TO_RADIANS"), (0, u "RADIANS_TO_DEGREES")] 94

def k10m0 : Method := { name := "<init>", desc := "()V", sig := { parameters := [], returnType := none }, accessFlags := 2, code := none }
def k10c1 : Code := { maxStack := 2, maxLocals := 2, code := jdk_29_method_69_code, exceptionTable := #[], attributes := #[] }
def k10m1 : Method := { name := "min", desc := "(II)I", sig := { parameters := [.int, .int], returnType := some .int }, accessFlags := 9, code := some k10c1 }
/-- java/lang/Math -/
def k10 : Class := { plain "java/lang/Math" (some 0) with
  accessFlags := 49
  interfaces := #[]
  cf := some (fileOf pool10 1 #[.nestMembers #[98]] #[{ accessFlags := 2, nameIndex := 7, descriptorIndex := 8, attributes := #[] }, { accessFlags := 9, nameIndex := 201, descriptorIndex := 335, attributes := #[] }] 49 4 #[] #[{ accessFlags := 25, nameIndex := 354, descriptorIndex := 339, attributes := #[] }, { accessFlags := 25, nameIndex := 358, descriptorIndex := 339, attributes := #[] }, { accessFlags := 25, nameIndex := 361, descriptorIndex := 339, attributes := #[] }, { accessFlags := 26, nameIndex := 364, descriptorIndex := 339, attributes := #[] }, { accessFlags := 26, nameIndex := 365, descriptorIndex := 339, attributes := #[] }, { accessFlags := 26, nameIndex := 172, descriptorIndex := 173, attributes := #[] }, { accessFlags := 26, nameIndex := 176, descriptorIndex := 173, attributes := #[] }, { accessFlags := 8, nameIndex := 344, descriptorIndex := 339, attributes := #[] }, { accessFlags := 8, nameIndex := 338, descriptorIndex := 339, attributes := #[] }, { accessFlags := 4120, nameIndex := 245, descriptorIndex := 246, attributes := #[] }])
  fields := #[{ name := "E", type := .double, accessFlags := 25, slot := 0, constantValue := 0 }, { name := "PI", type := .double, accessFlags := 25, slot := 1, constantValue := 0 }, { name := "TAU", type := .double, accessFlags := 25, slot := 2, constantValue := 0 }, { name := "DEGREES_TO_RADIANS", type := .double, accessFlags := 26, slot := 3, constantValue := 0 }, { name := "RADIANS_TO_DEGREES", type := .double, accessFlags := 26, slot := 4, constantValue := 0 }, { name := "negativeZeroFloatBits", type := .long, accessFlags := 26, slot := 5, constantValue := 0 }, { name := "negativeZeroDoubleBits", type := .long, accessFlags := 26, slot := 6, constantValue := 0 }, { name := "twoToTheDoubleScaleUp", type := .double, accessFlags := 8, slot := 7, constantValue := 0 }, { name := "twoToTheDoubleScaleDown", type := .double, accessFlags := 8, slot := 8, constantValue := 0 }, { name := "$assertionsDisabled", type := .boolean, accessFlags := 4120, slot := 9, constantValue := 0 }]
  methods := #[k10m0, k10m1]
  instanceTypes := #[]
  staticTypes := #[.double, .double, .double, .double, .double, .long, .long, .double, .double, .boolean]
  resolved := Array.replicate 460 none
  statics := none }

def pool11 : Array CpInfo := pool [(1, u "java/lang/Cloneable"), (0, .class_ 1), (0, u "java/lang/Object"), (0, .class_ 3)] 3

/-- java/lang/Cloneable -/
def k11 : Class := { plain "java/lang/Cloneable" (some 0) with
  accessFlags := 1537
  interfaces := #[]
  cf := some (fileOf pool11 2 #[] #[] 1537 4 #[] #[])
  fields := #[]
  methods := #[]
  instanceTypes := #[]
  staticTypes := #[]
  resolved := Array.replicate 8 none
  statics := none }

/-- the primitive byte -/
def k12 : Class := { plain "byte" none with kind := .primitive 'B', accessFlags := 0x411 }
/-- [B -/
def k13 : Class := { plain "[B" (some 0) with kind := .array 12 .byte, interfaces := #[11, 3], accessFlags := 1041 }

/-- the primitive int -/
def k14 : Class := { plain "int" none with kind := .primitive 'I', accessFlags := 0x411 }
/-- [I -/
def k15 : Class := { plain "[I" (some 0) with kind := .array 14 .int, interfaces := #[11, 3], accessFlags := 1041 }

/-- [Ljava/lang/Integer; -/
def k16 : Class := { plain "[Ljava/lang/Integer;" (some 0) with kind := .array 8 (.object "java/lang/Integer"), interfaces := #[11, 3], accessFlags := 1041 }

/-- [Ljava/lang/Object; -/
def k17 : Class := { plain "[Ljava/lang/Object;" (some 0) with kind := .array 0 (.object "java/lang/Object"), interfaces := #[11, 3], accessFlags := 1041 }

def heap : Heap := #[{ cls := 9, slots := #[.int 0, .int 127, .ref 1, .null, .int 0], vm := .statics 9 },
  { cls := 16, slots := #[.ref 2, .ref 3, .ref 4, .ref 5, .ref 6, .ref 7, .ref 8, .ref 9, .ref 10, .ref 11, .ref 12, .ref 13, .ref 14, .ref 15, .ref 16, .ref 17, .ref 18, .ref 19, .ref 20, .ref 21, .ref 22, .ref 23, .ref 24, .ref 25, .ref 26, .ref 27, .ref 28, .ref 29, .ref 30, .ref 31, .ref 32, .ref 33, .ref 34, .ref 35, .ref 36, .ref 37, .ref 38, .ref 39, .ref 40, .ref 41, .ref 42, .ref 43, .ref 44, .ref 45, .ref 46, .ref 47, .ref 48, .ref 49, .ref 50, .ref 51, .ref 52, .ref 53, .ref 54, .ref 55, .ref 56, .ref 57, .ref 58, .ref 59, .ref 60, .ref 61, .ref 62, .ref 63, .ref 64, .ref 65, .ref 66, .ref 67, .ref 68, .ref 69, .ref 70, .ref 71, .ref 72, .ref 73, .ref 74, .ref 75, .ref 76, .ref 77, .ref 78, .ref 79, .ref 80, .ref 81, .ref 82, .ref 83, .ref 84, .ref 85, .ref 86, .ref 87, .ref 88, .ref 89, .ref 90, .ref 91, .ref 92, .ref 93, .ref 94, .ref 95, .ref 96, .ref 97, .ref 98, .ref 99, .ref 100, .ref 101, .ref 102, .ref 103, .ref 104, .ref 105, .ref 106, .ref 107, .ref 108, .ref 109, .ref 110, .ref 111, .ref 112, .ref 113, .ref 114, .ref 115, .ref 116, .ref 117, .ref 118, .ref 119, .ref 120, .ref 121, .ref 122, .ref 123, .ref 124, .ref 125, .ref 126, .ref 127, .ref 128, .ref 129, .ref 130, .ref 131, .ref 132, .ref 133, .ref 134, .ref 135, .ref 136, .ref 137, .ref 138, .ref 139, .ref 140, .ref 141, .ref 142, .ref 143, .ref 144, .ref 145, .ref 146, .ref 147, .ref 148, .ref 149, .ref 150, .ref 151, .ref 152, .ref 153, .ref 154, .ref 155, .ref 156, .ref 157, .ref 158, .ref 159, .ref 160, .ref 161, .ref 162, .ref 163, .ref 164, .ref 165, .ref 166, .ref 167, .ref 168, .ref 169, .ref 170, .ref 171, .ref 172, .ref 173, .ref 174, .ref 175, .ref 176, .ref 177, .ref 178, .ref 179, .ref 180, .ref 181, .ref 182, .ref 183, .ref 184, .ref 185, .ref 186, .ref 187, .ref 188, .ref 189, .ref 190, .ref 191, .ref 192, .ref 193, .ref 194, .ref 195, .ref 196, .ref 197, .ref 198, .ref 199, .ref 200, .ref 201, .ref 202, .ref 203, .ref 204, .ref 205, .ref 206, .ref 207, .ref 208, .ref 209, .ref 210, .ref 211, .ref 212, .ref 213, .ref 214, .ref 215, .ref 216, .ref 217, .ref 218, .ref 219, .ref 220, .ref 221, .ref 222, .ref 223, .ref 224, .ref 225, .ref 226, .ref 227, .ref 228, .ref 229, .ref 230, .ref 231, .ref 232, .ref 233, .ref 234, .ref 235, .ref 236, .ref 237, .ref 238, .ref 239, .ref 240, .ref 241, .ref 242, .ref 243, .ref 244, .ref 245, .ref 246, .ref 247, .ref 248, .ref 249, .ref 250, .ref 251, .ref 252, .ref 253, .ref 254, .ref 255, .ref 256, .ref 257], vm := .none },
  { cls := 8, slots := #[.int (-128)], vm := .none },
  { cls := 8, slots := #[.int (-127)], vm := .none },
  { cls := 8, slots := #[.int (-126)], vm := .none },
  { cls := 8, slots := #[.int (-125)], vm := .none },
  { cls := 8, slots := #[.int (-124)], vm := .none },
  { cls := 8, slots := #[.int (-123)], vm := .none },
  { cls := 8, slots := #[.int (-122)], vm := .none },
  { cls := 8, slots := #[.int (-121)], vm := .none },
  { cls := 8, slots := #[.int (-120)], vm := .none },
  { cls := 8, slots := #[.int (-119)], vm := .none },
  { cls := 8, slots := #[.int (-118)], vm := .none },
  { cls := 8, slots := #[.int (-117)], vm := .none },
  { cls := 8, slots := #[.int (-116)], vm := .none },
  { cls := 8, slots := #[.int (-115)], vm := .none },
  { cls := 8, slots := #[.int (-114)], vm := .none },
  { cls := 8, slots := #[.int (-113)], vm := .none },
  { cls := 8, slots := #[.int (-112)], vm := .none },
  { cls := 8, slots := #[.int (-111)], vm := .none },
  { cls := 8, slots := #[.int (-110)], vm := .none },
  { cls := 8, slots := #[.int (-109)], vm := .none },
  { cls := 8, slots := #[.int (-108)], vm := .none },
  { cls := 8, slots := #[.int (-107)], vm := .none },
  { cls := 8, slots := #[.int (-106)], vm := .none },
  { cls := 8, slots := #[.int (-105)], vm := .none },
  { cls := 8, slots := #[.int (-104)], vm := .none },
  { cls := 8, slots := #[.int (-103)], vm := .none },
  { cls := 8, slots := #[.int (-102)], vm := .none },
  { cls := 8, slots := #[.int (-101)], vm := .none },
  { cls := 8, slots := #[.int (-100)], vm := .none },
  { cls := 8, slots := #[.int (-99)], vm := .none },
  { cls := 8, slots := #[.int (-98)], vm := .none },
  { cls := 8, slots := #[.int (-97)], vm := .none },
  { cls := 8, slots := #[.int (-96)], vm := .none },
  { cls := 8, slots := #[.int (-95)], vm := .none },
  { cls := 8, slots := #[.int (-94)], vm := .none },
  { cls := 8, slots := #[.int (-93)], vm := .none },
  { cls := 8, slots := #[.int (-92)], vm := .none },
  { cls := 8, slots := #[.int (-91)], vm := .none },
  { cls := 8, slots := #[.int (-90)], vm := .none },
  { cls := 8, slots := #[.int (-89)], vm := .none },
  { cls := 8, slots := #[.int (-88)], vm := .none },
  { cls := 8, slots := #[.int (-87)], vm := .none },
  { cls := 8, slots := #[.int (-86)], vm := .none },
  { cls := 8, slots := #[.int (-85)], vm := .none },
  { cls := 8, slots := #[.int (-84)], vm := .none },
  { cls := 8, slots := #[.int (-83)], vm := .none },
  { cls := 8, slots := #[.int (-82)], vm := .none },
  { cls := 8, slots := #[.int (-81)], vm := .none },
  { cls := 8, slots := #[.int (-80)], vm := .none },
  { cls := 8, slots := #[.int (-79)], vm := .none },
  { cls := 8, slots := #[.int (-78)], vm := .none },
  { cls := 8, slots := #[.int (-77)], vm := .none },
  { cls := 8, slots := #[.int (-76)], vm := .none },
  { cls := 8, slots := #[.int (-75)], vm := .none },
  { cls := 8, slots := #[.int (-74)], vm := .none },
  { cls := 8, slots := #[.int (-73)], vm := .none },
  { cls := 8, slots := #[.int (-72)], vm := .none },
  { cls := 8, slots := #[.int (-71)], vm := .none },
  { cls := 8, slots := #[.int (-70)], vm := .none },
  { cls := 8, slots := #[.int (-69)], vm := .none },
  { cls := 8, slots := #[.int (-68)], vm := .none },
  { cls := 8, slots := #[.int (-67)], vm := .none },
  { cls := 8, slots := #[.int (-66)], vm := .none },
  { cls := 8, slots := #[.int (-65)], vm := .none },
  { cls := 8, slots := #[.int (-64)], vm := .none },
  { cls := 8, slots := #[.int (-63)], vm := .none },
  { cls := 8, slots := #[.int (-62)], vm := .none },
  { cls := 8, slots := #[.int (-61)], vm := .none },
  { cls := 8, slots := #[.int (-60)], vm := .none },
  { cls := 8, slots := #[.int (-59)], vm := .none },
  { cls := 8, slots := #[.int (-58)], vm := .none },
  { cls := 8, slots := #[.int (-57)], vm := .none },
  { cls := 8, slots := #[.int (-56)], vm := .none },
  { cls := 8, slots := #[.int (-55)], vm := .none },
  { cls := 8, slots := #[.int (-54)], vm := .none },
  { cls := 8, slots := #[.int (-53)], vm := .none },
  { cls := 8, slots := #[.int (-52)], vm := .none },
  { cls := 8, slots := #[.int (-51)], vm := .none },
  { cls := 8, slots := #[.int (-50)], vm := .none },
  { cls := 8, slots := #[.int (-49)], vm := .none },
  { cls := 8, slots := #[.int (-48)], vm := .none },
  { cls := 8, slots := #[.int (-47)], vm := .none },
  { cls := 8, slots := #[.int (-46)], vm := .none },
  { cls := 8, slots := #[.int (-45)], vm := .none },
  { cls := 8, slots := #[.int (-44)], vm := .none },
  { cls := 8, slots := #[.int (-43)], vm := .none },
  { cls := 8, slots := #[.int (-42)], vm := .none },
  { cls := 8, slots := #[.int (-41)], vm := .none },
  { cls := 8, slots := #[.int (-40)], vm := .none },
  { cls := 8, slots := #[.int (-39)], vm := .none },
  { cls := 8, slots := #[.int (-38)], vm := .none },
  { cls := 8, slots := #[.int (-37)], vm := .none },
  { cls := 8, slots := #[.int (-36)], vm := .none },
  { cls := 8, slots := #[.int (-35)], vm := .none },
  { cls := 8, slots := #[.int (-34)], vm := .none },
  { cls := 8, slots := #[.int (-33)], vm := .none },
  { cls := 8, slots := #[.int (-32)], vm := .none },
  { cls := 8, slots := #[.int (-31)], vm := .none },
  { cls := 8, slots := #[.int (-30)], vm := .none },
  { cls := 8, slots := #[.int (-29)], vm := .none },
  { cls := 8, slots := #[.int (-28)], vm := .none },
  { cls := 8, slots := #[.int (-27)], vm := .none },
  { cls := 8, slots := #[.int (-26)], vm := .none },
  { cls := 8, slots := #[.int (-25)], vm := .none },
  { cls := 8, slots := #[.int (-24)], vm := .none },
  { cls := 8, slots := #[.int (-23)], vm := .none },
  { cls := 8, slots := #[.int (-22)], vm := .none },
  { cls := 8, slots := #[.int (-21)], vm := .none },
  { cls := 8, slots := #[.int (-20)], vm := .none },
  { cls := 8, slots := #[.int (-19)], vm := .none },
  { cls := 8, slots := #[.int (-18)], vm := .none },
  { cls := 8, slots := #[.int (-17)], vm := .none },
  { cls := 8, slots := #[.int (-16)], vm := .none },
  { cls := 8, slots := #[.int (-15)], vm := .none },
  { cls := 8, slots := #[.int (-14)], vm := .none },
  { cls := 8, slots := #[.int (-13)], vm := .none },
  { cls := 8, slots := #[.int (-12)], vm := .none },
  { cls := 8, slots := #[.int (-11)], vm := .none },
  { cls := 8, slots := #[.int (-10)], vm := .none },
  { cls := 8, slots := #[.int (-9)], vm := .none },
  { cls := 8, slots := #[.int (-8)], vm := .none },
  { cls := 8, slots := #[.int (-7)], vm := .none },
  { cls := 8, slots := #[.int (-6)], vm := .none },
  { cls := 8, slots := #[.int (-5)], vm := .none },
  { cls := 8, slots := #[.int (-4)], vm := .none },
  { cls := 8, slots := #[.int (-3)], vm := .none },
  { cls := 8, slots := #[.int (-2)], vm := .none },
  { cls := 8, slots := #[.int (-1)], vm := .none },
  { cls := 8, slots := #[.int 0], vm := .none },
  { cls := 8, slots := #[.int 1], vm := .none },
  { cls := 8, slots := #[.int 2], vm := .none },
  { cls := 8, slots := #[.int 3], vm := .none },
  { cls := 8, slots := #[.int 4], vm := .none },
  { cls := 8, slots := #[.int 5], vm := .none },
  { cls := 8, slots := #[.int 6], vm := .none },
  { cls := 8, slots := #[.int 7], vm := .none },
  { cls := 8, slots := #[.int 8], vm := .none },
  { cls := 8, slots := #[.int 9], vm := .none },
  { cls := 8, slots := #[.int 10], vm := .none },
  { cls := 8, slots := #[.int 11], vm := .none },
  { cls := 8, slots := #[.int 12], vm := .none },
  { cls := 8, slots := #[.int 13], vm := .none },
  { cls := 8, slots := #[.int 14], vm := .none },
  { cls := 8, slots := #[.int 15], vm := .none },
  { cls := 8, slots := #[.int 16], vm := .none },
  { cls := 8, slots := #[.int 17], vm := .none },
  { cls := 8, slots := #[.int 18], vm := .none },
  { cls := 8, slots := #[.int 19], vm := .none },
  { cls := 8, slots := #[.int 20], vm := .none },
  { cls := 8, slots := #[.int 21], vm := .none },
  { cls := 8, slots := #[.int 22], vm := .none },
  { cls := 8, slots := #[.int 23], vm := .none },
  { cls := 8, slots := #[.int 24], vm := .none },
  { cls := 8, slots := #[.int 25], vm := .none },
  { cls := 8, slots := #[.int 26], vm := .none },
  { cls := 8, slots := #[.int 27], vm := .none },
  { cls := 8, slots := #[.int 28], vm := .none },
  { cls := 8, slots := #[.int 29], vm := .none },
  { cls := 8, slots := #[.int 30], vm := .none },
  { cls := 8, slots := #[.int 31], vm := .none },
  { cls := 8, slots := #[.int 32], vm := .none },
  { cls := 8, slots := #[.int 33], vm := .none },
  { cls := 8, slots := #[.int 34], vm := .none },
  { cls := 8, slots := #[.int 35], vm := .none },
  { cls := 8, slots := #[.int 36], vm := .none },
  { cls := 8, slots := #[.int 37], vm := .none },
  { cls := 8, slots := #[.int 38], vm := .none },
  { cls := 8, slots := #[.int 39], vm := .none },
  { cls := 8, slots := #[.int 40], vm := .none },
  { cls := 8, slots := #[.int 41], vm := .none },
  { cls := 8, slots := #[.int 42], vm := .none },
  { cls := 8, slots := #[.int 43], vm := .none },
  { cls := 8, slots := #[.int 44], vm := .none },
  { cls := 8, slots := #[.int 45], vm := .none },
  { cls := 8, slots := #[.int 46], vm := .none },
  { cls := 8, slots := #[.int 47], vm := .none },
  { cls := 8, slots := #[.int 48], vm := .none },
  { cls := 8, slots := #[.int 49], vm := .none },
  { cls := 8, slots := #[.int 50], vm := .none },
  { cls := 8, slots := #[.int 51], vm := .none },
  { cls := 8, slots := #[.int 52], vm := .none },
  { cls := 8, slots := #[.int 53], vm := .none },
  { cls := 8, slots := #[.int 54], vm := .none },
  { cls := 8, slots := #[.int 55], vm := .none },
  { cls := 8, slots := #[.int 56], vm := .none },
  { cls := 8, slots := #[.int 57], vm := .none },
  { cls := 8, slots := #[.int 58], vm := .none },
  { cls := 8, slots := #[.int 59], vm := .none },
  { cls := 8, slots := #[.int 60], vm := .none },
  { cls := 8, slots := #[.int 61], vm := .none },
  { cls := 8, slots := #[.int 62], vm := .none },
  { cls := 8, slots := #[.int 63], vm := .none },
  { cls := 8, slots := #[.int 64], vm := .none },
  { cls := 8, slots := #[.int 65], vm := .none },
  { cls := 8, slots := #[.int 66], vm := .none },
  { cls := 8, slots := #[.int 67], vm := .none },
  { cls := 8, slots := #[.int 68], vm := .none },
  { cls := 8, slots := #[.int 69], vm := .none },
  { cls := 8, slots := #[.int 70], vm := .none },
  { cls := 8, slots := #[.int 71], vm := .none },
  { cls := 8, slots := #[.int 72], vm := .none },
  { cls := 8, slots := #[.int 73], vm := .none },
  { cls := 8, slots := #[.int 74], vm := .none },
  { cls := 8, slots := #[.int 75], vm := .none },
  { cls := 8, slots := #[.int 76], vm := .none },
  { cls := 8, slots := #[.int 77], vm := .none },
  { cls := 8, slots := #[.int 78], vm := .none },
  { cls := 8, slots := #[.int 79], vm := .none },
  { cls := 8, slots := #[.int 80], vm := .none },
  { cls := 8, slots := #[.int 81], vm := .none },
  { cls := 8, slots := #[.int 82], vm := .none },
  { cls := 8, slots := #[.int 83], vm := .none },
  { cls := 8, slots := #[.int 84], vm := .none },
  { cls := 8, slots := #[.int 85], vm := .none },
  { cls := 8, slots := #[.int 86], vm := .none },
  { cls := 8, slots := #[.int 87], vm := .none },
  { cls := 8, slots := #[.int 88], vm := .none },
  { cls := 8, slots := #[.int 89], vm := .none },
  { cls := 8, slots := #[.int 90], vm := .none },
  { cls := 8, slots := #[.int 91], vm := .none },
  { cls := 8, slots := #[.int 92], vm := .none },
  { cls := 8, slots := #[.int 93], vm := .none },
  { cls := 8, slots := #[.int 94], vm := .none },
  { cls := 8, slots := #[.int 95], vm := .none },
  { cls := 8, slots := #[.int 96], vm := .none },
  { cls := 8, slots := #[.int 97], vm := .none },
  { cls := 8, slots := #[.int 98], vm := .none },
  { cls := 8, slots := #[.int 99], vm := .none },
  { cls := 8, slots := #[.int 100], vm := .none },
  { cls := 8, slots := #[.int 101], vm := .none },
  { cls := 8, slots := #[.int 102], vm := .none },
  { cls := 8, slots := #[.int 103], vm := .none },
  { cls := 8, slots := #[.int 104], vm := .none },
  { cls := 8, slots := #[.int 105], vm := .none },
  { cls := 8, slots := #[.int 106], vm := .none },
  { cls := 8, slots := #[.int 107], vm := .none },
  { cls := 8, slots := #[.int 108], vm := .none },
  { cls := 8, slots := #[.int 109], vm := .none },
  { cls := 8, slots := #[.int 110], vm := .none },
  { cls := 8, slots := #[.int 111], vm := .none },
  { cls := 8, slots := #[.int 112], vm := .none },
  { cls := 8, slots := #[.int 113], vm := .none },
  { cls := 8, slots := #[.int 114], vm := .none },
  { cls := 8, slots := #[.int 115], vm := .none },
  { cls := 8, slots := #[.int 116], vm := .none },
  { cls := 8, slots := #[.int 117], vm := .none },
  { cls := 8, slots := #[.int 118], vm := .none },
  { cls := 8, slots := #[.int 119], vm := .none },
  { cls := 8, slots := #[.int 120], vm := .none },
  { cls := 8, slots := #[.int 121], vm := .none },
  { cls := 8, slots := #[.int 122], vm := .none },
  { cls := 8, slots := #[.int 123], vm := .none },
  { cls := 8, slots := #[.int 124], vm := .none },
  { cls := 8, slots := #[.int 125], vm := .none },
  { cls := 8, slots := #[.int 126], vm := .none },
  { cls := 8, slots := #[.int 127], vm := .none }]
def classes : Array Class := #[k0, k1, k2, k3, k4, k5, k6, k7, k8, k9, k10, k11, k12, k13, k14, k15, k16, k17]
def interned : List (Array UInt16 × Addr) := []
def slotsUsed : Nat := 517
def theMethod : MethodId := ⟨1, 2⟩
def args0 : Array Value := #[.int 5]
def aboutOver (below : List Frame) : State where
  vm := { classes := classes, interned := interned.toArray }
  heap := heap
  slotsUsed := slotsUsed
  threads := #[{ frames := .invoking theMethod args0 :: below }]
def below0 : List Frame := [.native { method := ⟨0, 0⟩, args := #[] }]
def about1 : State := aboutOver below0
def p0 : Program := .bare "" "" ""
def e0 : Env := launch0.env 0 0 0
theorem w_frames : about1.frames = Frame.invoking theMethod args0 :: below0 := rfl
set_option maxRecDepth 65536 in
theorem w_args : argsFit about1.vm theMethod args0 = true := by decide +kernel
set_option maxRecDepth 65536 in
theorem w_heap : heapFits about1 = true := by decide +kernel
set_option maxRecDepth 65536 in
theorem w_runnable : about1.curStatus? = some .runnable := by decide +kernel
set_option maxRecDepth 65536 in
theorem w_alone : about1.alone = true := by decide +kernel
set_option maxRecDepth 65536 in
theorem w_named : about1.methodNamed? x = some theMethod := by decide +kernel
set_option maxRecDepth 65536 in
theorem w_hears : about1.hears theMethod below0 = true := by decide +kernel
set_option maxRecDepth 65536 in
theorem w_ripe : about1.ripe theMethod args0 below0 = true := by decide +kernel
theorem w_running : about1.status = .running := rfl
set_option maxRecDepth 65536 in
theorem w_room : about1.hasRoom e0.platform room_1 = true :=
  launch0.hasRoom_least _ room_1 (by decide +kernel) (by decide +kernel) (by decide +kernel) (by decide +kernel) (by decide +kernel) (by decide +kernel)
theorem allAtoms_all (ts : List Jvm.Cond) (a : Array Jvm.Value) (st : Jvm.State) : (allAtoms ts).before a st = ts.all (fun c => c.before a st) := by
  induction ts with
  | nil => rfl
  | cons c t ih =>
    show (Jvm.Cond.and c (allAtoms t)).before a st = _
    rw [Jvm.Cond.before_and, ih, List.all_cons]
def words1 : List Jvm.Cond := Jvm.Cond.code x code maxLocals ret :: tables_1
/-- a 'code' word, met by the world's own term for the bytes: nothing is compared byte by byte -/
theorem code_word {y : MethodName} {bytes : ByteArray} {mx : Nat} {rt : Option FieldType} {a : Array Value} {s : State} {m : MethodId} {meth : Method} {c : Code} (h1 : s.methodNamed? y = some m) (h2 : s.vm.method? m = some meth) (h3 : meth.code = some c) (h4 : c.code = bytes)
    (h5 : (c.maxLocals == mx && c.exceptionTable.isEmpty && decide (c.maxStack ≤ mostOperands) && decide (meth.sig.returnType = rt) && !meth.locks && decide (parseMethodDescriptor y.desc = some meth.sig)) = true) : (Jvm.Cond.code y bytes mx rt).before a s = true := by
  simp only [Bool.and_eq_true, beq_iff_eq, Bool.not_eq_true', decide_eq_true_eq] at h5
  obtain ⟨⟨⟨⟨⟨g1, g2⟩, g3⟩, g4⟩, g5⟩, g6⟩ := h5
  simp [Cond.before, Cond.holds, Cond.value, h1, h2, h3, h4, g1, g2, g3, g4, g5, g6]
def isCode : Jvm.Cond → Bool
  | .code _ _ _ _ => true
  | _ => false
theorem all_split {L : List Jvm.Cond} {P : Jvm.Cond → Bool} (h1 : L.all (fun c => isCode c || P c) = true) (h2 : ∀ c ∈ L.filter isCode, P c = true) : L.all P = true := by
  refine List.all_eq_true.mpr fun c hc => ?_
  have h := List.all_eq_true.mp h1 c hc
  rcases Bool.eq_false_or_eq_true (isCode c) with hi | hi
  · exact h2 c (List.mem_filter.mpr ⟨hc, hi⟩)
  · simpa [hi] using h
set_option maxRecDepth 65536 in
theorem w_c0 : (Jvm.Cond.code x code maxLocals ret).before args0 about1 = true := code_word (m := ⟨1, 2⟩) (meth := k1m2) (c := k1c2) (by decide +kernel) rfl rfl rfl (by decide +kernel)
set_option maxRecDepth 65536 in
theorem w_c1 : (Jvm.Cond.code ({ cls := "com/example/fly_agaric/flyagaric/ChunkedQueue", name := "<init>", desc := "()V" } : Jvm.MethodName) prog_9_method_1_code (1 : Nat) (Option.none : Option Jvm.ClassFile.FieldType)).before args0 about1 = true := code_word (m := ⟨2, 0⟩) (meth := k2m0) (c := k2c0) (by decide +kernel) rfl rfl rfl (by decide +kernel)
set_option maxRecDepth 65536 in
theorem w_c2 : (Jvm.Cond.code ({ cls := "java/lang/Object", name := "<init>", desc := "()V" } : Jvm.MethodName) object_method_1_code (1 : Nat) (Option.none : Option Jvm.ClassFile.FieldType)).before args0 about1 = true := code_word (m := ⟨0, 0⟩) (meth := k0m0) (c := k0c0) (by decide +kernel) rfl rfl rfl (by decide +kernel)
set_option maxRecDepth 65536 in
theorem w_c3 : (Jvm.Cond.code ({ cls := "com/example/fly_agaric/flyagaric/ChunkedQueue", name := "isEmpty", desc := "()Z" } : Jvm.MethodName) prog_9_method_2_code (1 : Nat) (Option.some Jvm.ClassFile.FieldType.boolean)).before args0 about1 = true := code_word (m := ⟨2, 1⟩) (meth := k2m1) (c := k2c1) (by decide +kernel) rfl rfl rfl (by decide +kernel)
set_option maxRecDepth 65536 in
theorem w_c4 : (Jvm.Cond.code ({ cls := "com/example/fly_agaric/flyagaric/ChunkedQueueIsEmptyPinLaw", name := "step", desc := "(Lcom/example/fly_agaric/flyagaric/ChunkedQueue;III)I" } : Jvm.MethodName) method_2_code (6 : Nat) (Option.some Jvm.ClassFile.FieldType.int)).before args0 about1 = true := code_word (m := ⟨1, 1⟩) (meth := k1m1) (c := k1c1) (by decide +kernel) rfl rfl rfl (by decide +kernel)
set_option maxRecDepth 65536 in
theorem w_c5 : (Jvm.Cond.code ({ cls := "com/example/fly_agaric/flyagaric/ChunkedQueue", name := "poll", desc := "()Ljava/lang/Object;" } : Jvm.MethodName) prog_9_method_6_code (2 : Nat) (Option.some (Jvm.ClassFile.FieldType.object "java/lang/Object"))).before args0 about1 = true := code_word (m := ⟨2, 4⟩) (meth := k2m4) (c := k2c4) (by decide +kernel) rfl rfl rfl (by decide +kernel)
set_option maxRecDepth 65536 in
theorem w_c6 : (Jvm.Cond.code ({ cls := "com/example/fly_agaric/flyagaric/ChunkedQueue", name := "peek", desc := "()Ljava/lang/Object;" } : Jvm.MethodName) prog_9_method_4_code (1 : Nat) (Option.some (Jvm.ClassFile.FieldType.object "java/lang/Object"))).before args0 about1 = true := code_word (m := ⟨2, 3⟩) (meth := k2m3) (c := k2c3) (by decide +kernel) rfl rfl rfl (by decide +kernel)
set_option maxRecDepth 65536 in
theorem w_c7 : (Jvm.Cond.code ({ cls := "java/lang/Integer", name := "valueOf", desc := "(I)Ljava/lang/Integer;" } : Jvm.MethodName) jdk_33_method_22_code (1 : Nat) (Option.some (Jvm.ClassFile.FieldType.object "java/lang/Integer"))).before args0 about1 = true := code_word (m := ⟨8, 0⟩) (meth := k8m0) (c := k8c0) (by decide +kernel) rfl rfl rfl (by decide +kernel)
set_option maxRecDepth 65536 in
theorem w_c8 : (Jvm.Cond.code ({ cls := "com/example/fly_agaric/flyagaric/ChunkedQueue", name := "add", desc := "(Ljava/lang/Object;)V" } : Jvm.MethodName) prog_9_method_3_code (4 : Nat) (Option.none : Option Jvm.ClassFile.FieldType)).before args0 about1 = true := code_word (m := ⟨2, 2⟩) (meth := k2m2) (c := k2c2) (by decide +kernel) rfl rfl rfl (by decide +kernel)
set_option maxRecDepth 65536 in
theorem w_c9 : (Jvm.Cond.code ({ cls := "java/lang/Math", name := "min", desc := "(II)I" } : Jvm.MethodName) jdk_29_method_69_code (2 : Nat) (Option.some Jvm.ClassFile.FieldType.int)).before args0 about1 = true := code_word (m := ⟨10, 1⟩) (meth := k10m1) (c := k10c1) (by decide +kernel) rfl rfl rfl (by decide +kernel)
def codes1 : List Jvm.Cond := [Jvm.Cond.code x code maxLocals ret, Jvm.Cond.code ({ cls := "com/example/fly_agaric/flyagaric/ChunkedQueue", name := "<init>", desc := "()V" } : Jvm.MethodName) prog_9_method_1_code (1 : Nat) (Option.none : Option Jvm.ClassFile.FieldType), Jvm.Cond.code ({ cls := "java/lang/Object", name := "<init>", desc := "()V" } : Jvm.MethodName) object_method_1_code (1 : Nat) (Option.none : Option Jvm.ClassFile.FieldType), Jvm.Cond.code ({ cls := "com/example/fly_agaric/flyagaric/ChunkedQueue", name := "isEmpty", desc := "()Z" } : Jvm.MethodName) prog_9_method_2_code (1 : Nat) (Option.some Jvm.ClassFile.FieldType.boolean), Jvm.Cond.code ({ cls := "com/example/fly_agaric/flyagaric/ChunkedQueueIsEmptyPinLaw", name := "step", desc := "(Lcom/example/fly_agaric/flyagaric/ChunkedQueue;III)I" } : Jvm.MethodName) method_2_code (6 : Nat) (Option.some Jvm.ClassFile.FieldType.int), Jvm.Cond.code ({ cls := "com/example/fly_agaric/flyagaric/ChunkedQueue", name := "poll", desc := "()Ljava/lang/Object;" } : Jvm.MethodName) prog_9_method_6_code (2 : Nat) (Option.some (Jvm.ClassFile.FieldType.object "java/lang/Object")), Jvm.Cond.code ({ cls := "com/example/fly_agaric/flyagaric/ChunkedQueue", name := "peek", desc := "()Ljava/lang/Object;" } : Jvm.MethodName) prog_9_method_4_code (1 : Nat) (Option.some (Jvm.ClassFile.FieldType.object "java/lang/Object")), Jvm.Cond.code ({ cls := "java/lang/Integer", name := "valueOf", desc := "(I)Ljava/lang/Integer;" } : Jvm.MethodName) jdk_33_method_22_code (1 : Nat) (Option.some (Jvm.ClassFile.FieldType.object "java/lang/Integer")), Jvm.Cond.code ({ cls := "com/example/fly_agaric/flyagaric/ChunkedQueue", name := "add", desc := "(Ljava/lang/Object;)V" } : Jvm.MethodName) prog_9_method_3_code (4 : Nat) (Option.none : Option Jvm.ClassFile.FieldType), Jvm.Cond.code ({ cls := "java/lang/Math", name := "min", desc := "(II)I" } : Jvm.MethodName) jdk_29_method_69_code (2 : Nat) (Option.some Jvm.ClassFile.FieldType.int)]
set_option maxRecDepth 65536 in
theorem codes_eq : words1.filter isCode = codes1 := rfl
theorem w_codes : ∀ c ∈ words1.filter isCode, c.before args0 about1 = true := by
  rw [codes_eq]
  intro c hc
  simp only [codes1, List.mem_cons, List.not_mem_nil, or_false] at hc
  rcases hc with rfl | rfl | rfl | rfl | rfl | rfl | rfl | rfl | rfl | rfl
  · exact w_c0
  · exact w_c1
  · exact w_c2
  · exact w_c3
  · exact w_c4
  · exact w_c5
  · exact w_c6
  · exact w_c7
  · exact w_c8
  · exact w_c9
set_option maxRecDepth 65536 in
theorem w_t1 : (words1.take 24).all (fun c => isCode c || c.before args0 about1) = true := by decide +kernel
set_option maxRecDepth 65536 in
theorem w_t2 : ((words1.drop 24).take 24).all (fun c => isCode c || c.before args0 about1) = true := by decide +kernel
set_option maxRecDepth 65536 in
theorem w_t3 : ((words1.drop 24).drop 24).all (fun c => isCode c || c.before args0 about1) = true := by decide +kernel
theorem w_tables : (allAtoms (Jvm.Cond.code x code maxLocals ret :: tables_1)).before args0 about1 = true := by
  rw [allAtoms_all]
  show words1.all (fun c => c.before args0 about1) = true
  refine all_split ?_ w_codes
  rw [← List.take_append_drop 24 words1, List.all_append, w_t1, ← List.take_append_drop 24 (words1.drop 24), List.all_append, w_t2, w_t3]
  rfl
set_option maxRecDepth 65536 in
theorem w_rest : rest_1_c.before args0 about1 = true := by decide +kernel
set_option maxRecDepth 65536 in
theorem w_case : (Jvm.Cond.and given_1 narrow_1).before args0 about1 = true := by decide +kernel
theorem w_applies : (headSpec (Jvm.Cond.code x code maxLocals ret :: tables_1) room_1).applies x e0.platform about1 = true :=
  (Spec.applies_iff w_frames).mpr ⟨w_running, w_runnable, w_alone, w_named, w_hears, w_ripe, w_room, w_tables⟩
theorem atStart : AtStart classFile x code maxLocals ret World_1 tables_1 room_1 Calls_1 rest_1 Pre_1 launch0 p0 e0 about1 theMethod args0 below0 :=
  ⟨lists_1, trivial, launch0.admits_env _ _ _, launch0.least_env, fairChoices_fair.cas, fairChoices_fair.clock, w_frames, w_args, w_heap, w_applies, trivial, w_rest, w_case⟩
end start1
theorem witness_1 : WitnessClaimed_1 := ⟨start1.p0, start1.e0, start1.about1, start1.theMethod, start1.args0, start1.below0, start1.atStart⟩
end Jvm.Pilot.@@N@@
