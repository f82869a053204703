/- Sch: a schema as it comes in (RepDefs) and as the package's own (PSch); opening it; toSchema. -/
import Derived.Test.YtempfaefopfobaaToOk
import Derived.Test.YtempfaefopfobaaDefd
import Derived.Test.YtempfaefopfobaaElemIn
import Derived.Test.YtempfaefopfobaaLate

set_option maxRecDepth 100000
namespace Go.Proofs.Ytempfaefopfobaa
open Go.ChangeShapes Go.WideShapes Go.ChangeAt Go.RowKit
set_option linter.unusedVariables false
set_option linter.unusedSimpArgs false

def RepDefs (S : Nat → Prop) (w : World) (v : Value) (ts : List (ByteArray × GS)) : Prop :=
  ∃ a b o c, v = .slice a ts.length c ∧ ts.length * 80 ≤ 140737488351232 ∧ SlAt S w 4 a b o ts.length c ∧
    ∀ (i : Nat) (p : ByteArray × GS) (cs : List Value), ts[i]? = some p → cs.length = 4 → cellsAt w b (o + i * 4) cs → ∃ c0 c1 c2, cs = [.string p.1, c0, c1, c2] ∧ p.2.tag = 2 ∧ p.1.size ≤ 140737488351232 ∧ RepGS S w p.2 [c0, c1, c2]
theorem RepDefs.mono {S S' : Nat → Prop} {w w' : World} (h : Same S w w') (hS : ∀ b, S b → b < w.heap.size → S' b) {v : Value} {ts : List (ByteArray × GS)} (hr : RepDefs S w v ts) : RepDefs S' w' v ts := by
  obtain ⟨a, b, o, c, h1, h2, h3, h4⟩ := hr
  refine ⟨a, b, o, c, h1, h2, h3.mono h hS (by omega), fun i p cs hp hl hc => ?_⟩
  obtain ⟨c0, c1, c2, k1, k2, k3, k4⟩ := h4 i p cs hp hl (h3.back h (List.getElem?_eq_some_iff.1 hp).1 hl hc)
  exact ⟨c0, c1, c2, k1, k2, k3, k4.mono h hS⟩
theorem RepDefs.ext {S : Nat → Prop} {w w' : World} (h : Ext w w') {v : Value} {ts : List (ByteArray × GS)} (hr : RepDefs S w v ts) : RepDefs S w' v ts := hr.mono (h.same S) (fun _ h _ => h)
/-- the definition at an index -/
theorem RepDefs.at' {S : Nat → Prop} {w : World} {v : Value} {ts : List (ByteArray × GS)} (h : RepDefs S w v ts) : ∃ a b o c, v = .slice a ts.length c ∧ ts.length * 80 ≤ 140737488351232 ∧
    ∀ (i : Nat) (p : ByteArray × GS), ts[i]? = some p → a = some ⟨b, o, none⟩ ∧ p.2.tag = 2 ∧ p.1.size ≤ 140737488351232 ∧ ∃ s p0 p1 p2 q0 q1 q2, cellsAt w b (o + i * 4) [.string p.1, .string s, .slice p0 p1 p2, .slice q0 q1 q2] ∧ RepGS S w p.2 [.string s, .slice p0 p1 p2, .slice q0 q1 q2] := by
  obtain ⟨a, b, o, c, h1, h2, ⟨h3, h4, h5⟩, h6⟩ := h
  refine ⟨a, b, o, c, h1, h2, fun i p hp => ?_⟩
  have hi := (List.getElem?_eq_some_iff.1 hp).1
  obtain ⟨cs, k1, k2⟩ := h5 i hi
  obtain ⟨c0, c1, c2, rfl, k4, k5, k6⟩ := h6 i p cs hp k1 k2
  obtain ⟨s, p0, p1, p2, q0, q1, q2, e⟩ := k6.formA k4
  simp only [List.cons.injEq, and_true] at e
  obtain ⟨rfl, rfl, rfl⟩ := e
  exact ⟨(h4 (by omega)).1, k4, k5, _, _, _, _, _, _, _, k2, k6⟩
theorem cellsDef : Try.prog.cellsOf 69 = 4 := by kernel_rfl
theorem bytesDef : Try.prog.bytesOf 69 = 80 := by kernel_rfl
theorem cellsDefs : Try.prog.cellsOf 60 = 1 := by kernel_rfl
theorem cellsSch : Try.prog.cellsOf 62 = 1 := by kernel_rfl
instance : Inhabited (ByteArray × GS) := ⟨(ByteArray.empty, default)⟩
section
variable {H : Type} {enc : TypeId × Value → H} {w : World} {base : Nat} {spare : Nat → Bool} {held : Bool}
set_option maxHeartbeats 1000000 in
theorem open_gsch (fuel : Nat) (cs : List Value) (x : DataW H × List MemPlace) (h : DataW.trod enc Try.prog w base spare held fuel 62 cs = some x) (hw : Wt Try.prog 62 x.1) : ∃ ts, ∃ v, cs = [v] ∧ RepDefs Any w v ts := by
  obtain ⟨n, rfl, hlen, hf⟩ := open_field Try.underlying62 h hw
  rw [cellsSch] at hlen
  obtain ⟨v, rfl⟩ : ∃ v, cs = [v] := by
    match cs, hlen with
    | [v], _ => exact ⟨v, rfl⟩
  obtain ⟨y0, h0, w0⟩ := hf 0 60 0 rfl
  simp only [cellsDefs, List.drop, List.take] at h0
  obtain ⟨a, b, o, len, cap, e0, hl, hb, ha, hel⟩ := open_sl Try.underlying60 (by rw [cellsDef]; omega) h0 w0
  rw [bytesDef] at hb
  rw [cellsDef] at hel
  simp only [List.cons.injEq, and_true] at e0
  subst e0
  obtain ⟨l, rfl, hS, ht, hR⟩ := sl_pick (k := 4) (R := fun (p : ByteArray × GS) cs => ∃ c0 c1 c2, cs = [.string p.1, c0, c1, c2] ∧ p.2.tag = 2 ∧ p.1.size ≤ 140737488351232 ∧ RepGS Any w p.2 [c0, c1, c2]) hl ha (fun i hi => by
    obtain ⟨n', cs', y, hn', h6, h7, h8, h9⟩ := hel i hi
    obtain ⟨m, rfl, hlen', hf'⟩ := open_field Try.underlying69 h8 h9
    obtain ⟨d0, d1, d2, d3, rfl⟩ : ∃ d0 d1 d2 d3, cs' = [d0, d1, d2, d3] := by
      match cs', h6 with
      | [d0, d1, d2, d3], _ => exact ⟨d0, d1, d2, d3, rfl⟩
    obtain ⟨z0, k0, u0⟩ := hf' 0 9 0 rfl
    obtain ⟨z1, k1, u1⟩ := hf' 1 53 1 rfl
    simp only [cellsStr, cellsAtom, List.drop, List.take] at k0 k1
    obtain ⟨s, e1, hs⟩ := open_str Try.underlying9 k0 u0
    obtain ⟨g, hg, hr⟩ := (open_gs _).2.1 _ _ k1 u1
    simp only [List.cons.injEq, and_true] at e1
    subst e1
    exact ⟨(s, g), _, h6, h7, _, _, _, rfl, hg, hs, hr⟩)
  exact ⟨l, _, rfl, a, b, o, cap, rfl, hb, hS, fun i p cs h1 h2 h3 => hR i p cs h1 h2 h3⟩
end
set_option maxHeartbeats 1000000 in
theorem fits6_any (v : Value) (ts : List (ByteArray × GS)) (w : World) (h : RepDefs Any w v ts) : Calls Try.prog 35 #[.agg #[v]] w (Tells w) := by
  obtain ⟨a, b, o, c, rfl, hb, -⟩ := h.at'
  by_cases hbig : ts.length > 2147483647
  all_goals
    go_enter Try.func35, Try.ntmps35
    go_wp2_with fail
    go_ret
    exact ⟨_, rfl, (Ext.refl _).alloc _⟩
set_option maxHeartbeats 2000000 in
theorem definedSchema_any (v : Value) (ts : List (ByteArray × GS)) (w : World) (h : RepDefs Any w v ts) : Calls Try.prog 36 #[.agg #[v]] w (Tells w) := by
  obtain ⟨a, b, o, c, rfl, hb, hat⟩ := h.at'
  have HA := hid hat
  clear h hat
  have HE0 := hid ((Ext.refl w).alloc (.cells #[.slice a ts.length c] 62))
  go_enter Try.func36, Try.ntmps36
  go_wp2_with fail
  go_loopw [8] (fun i wr => ∃ k : Nat, i = .int .i64 k ∧ k ≤ ts.length ∧ Hid (Ext w wr)) (fun i _ => ts.length - (intOf i).toNat)
  case atStart => exact ⟨0, rfl, Nat.zero_le _, HE0⟩
  case round =>
    obtain ⟨k, rfl, hk, HE⟩ := hrel
    by_cases h1 : k < ts.length
    · obtain ⟨p, hp⟩ : ∃ p, ts[k]? = some p := ⟨_, List.getElem?_eq_getElem h1⟩
      obtain ⟨rfl, htag, hsz, s, p0, p1, p2, q0, q1, q2, hc, hR⟩ := HA.out k p hp
      obtain ⟨e0, e1, e2, e3⟩ := (show wr.cell? ⟨b, o + k * 4, none⟩ = some (.string p.1) ∧ wr.cell? ⟨b, o + k * 4 + 1, none⟩ = some (.string s) ∧ wr.cell? ⟨b, o + k * 4 + 2, none⟩ = some (.slice p0 p1 p2) ∧ wr.cell? ⟨b, o + k * 4 + 3, none⟩ = some (.slice q0 q1 q2) from
        ⟨HE.out.cellS (by simpa using hc 0 _ rfl), HE.out.cellS (hc 1 _ rfl), HE.out.cellS (hc 2 _ rfl), HE.out.cellS (hc 3 _ rfl)⟩)
      have HD := hid (fun W (hW : Ext w W) => definedAtom_any 20 (by omega) p.2 W _ htag (hR.ext hW))
      have hi0 : (0 : Int) ≤ (k : Int) := by omega
      have hi1 : (k : Int) < (ts.length : Int) := by omega
      clear hp hc hR htag
      go_wp2_with (go_at_call 78; refine (HD.out _ (HE.out.alloc _)).mono ?_; rintro e w3 ⟨b', rfl, hE⟩; have HE3 := hid ((HE.out.alloc _).trans hE); cases b' <;> clear hE)
      · go_ret
        exact ⟨_, rfl, HE3.out⟩
      · exact ⟨⟨k + 1, by go_num, by omega, HE3⟩, by simp [intOf]; omega⟩
    · go_wp2_with fail
      go_ret
      exact ⟨_, rfl, HE.out⟩
/-- the package's own schema -/
def PSch (S : Nat → Prop) (w : World) (b : Nat) (ts : List (ByteArray × GS)) : Prop :=
  ∃ a rb c, w.heap[b]? = some (.cells #[.slice a ts.length c] 187) ∧ ts.length * 80 ≤ 140737488351232 ∧
    ∀ (i : Nat) (p : ByteArray × GS), ts[i]? = some p → a = some ⟨rb, 0, none⟩ ∧ p.2.tag = 2 ∧ p.1.size ≤ 140737488351232 ∧ ∃ q r s, cellsAt w rb (i * 4) [.string p.1, .pointer q, .pointer r, .pointer s] ∧ RepS S w p.2 [.pointer q, .pointer r, .pointer s]
theorem PSch.below {S : Nat → Prop} {w : World} {b : Nat} {ts : List (ByteArray × GS)} (hr : PSch S w b ts) : PSch (fun x => S x ∧ x < w.heap.size) w b ts := by
  obtain ⟨a, rb, c, h1, h3, h4⟩ := hr
  refine ⟨a, rb, c, h1, h3, fun i p hp => ?_⟩
  obtain ⟨k1, k2, k3, q, r, s, k4, k5⟩ := h4 i p hp
  exact ⟨k1, k2, k3, q, r, s, k4, k5.weak (fun b h1 h2 => ⟨h1, h2⟩)⟩
theorem PSch.ext {S : Nat → Prop} {w w' : World} (h : Ext w w') {b : Nat} {ts : List (ByteArray × GS)} (hr : PSch S w b ts) : PSch S w' b ts := by
  obtain ⟨a, rb, c, h1, h3, h4⟩ := hr
  refine ⟨a, rb, c, h.block h1, h3, fun i p hp => ?_⟩
  obtain ⟨k1, k2, k3, q, r, s, k4, k5⟩ := h4 i p hp
  exact ⟨k1, k2, k3, q, r, s, cellsAt_ext h k4, k5.ext h⟩
/-- the cells of its definitions -/
def RowD (S : Nat → Prop) (w : World) (xs : List Value) (ts : List (ByteArray × GS)) : Prop :=
  xs.length = ts.length * 4 ∧ ∀ (i : Nat) (p : ByteArray × GS), ts[i]? = some p → p.2.tag = 2 ∧ p.1.size ≤ 140737488351232 ∧ ∃ q r s, (∀ (j : Nat) (u : Value), [Value.string p.1, .pointer q, .pointer r, .pointer s][j]? = some u → xs[i * 4 + j]? = some u) ∧ RepS S w p.2 [.pointer q, .pointer r, .pointer s]
theorem RowD.nil (S : Nat → Prop) (w : World) : RowD S w [] [] := ⟨rfl, fun i p h => by simp at h⟩
theorem RowD.mono {S S' : Nat → Prop} {w w' : World} {xs : List Value} {ts : List (ByteArray × GS)} (h : RowD S w xs ts) (hs : Same S w w') (hS : ∀ b, S b → b < w.heap.size → S' b) : RowD S' w' xs ts :=
  ⟨h.1, fun i p hp => by obtain ⟨h1, h2, q, r, s, h3, h4⟩ := h.2 i p hp; exact ⟨h1, h2, q, r, s, h3, h4.mono hs hS⟩⟩
theorem RowD.snoc {S : Nat → Prop} {w : World} {xs : List Value} {ts : List (ByteArray × GS)} (h : RowD S w xs ts) {p : ByteArray × GS} {q r s : Option Addr} (ht : p.2.tag = 2) (hk : p.1.size ≤ 140737488351232) (hx : RepS S w p.2 [.pointer q, .pointer r, .pointer s]) :
    RowD S w (xs ++ [.string p.1, .pointer q, .pointer r, .pointer s]) (ts ++ [p]) := by
  refine ⟨by simp [h.1]; omega, fun i p' hp => ?_⟩
  by_cases hi : i < ts.length
  · rw [List.getElem?_append_left hi] at hp
    obtain ⟨h1, h2, q', r', s', h3, h4⟩ := h.2 i p' hp
    refine ⟨h1, h2, q', r', s', fun j u hu => ?_, h4⟩
    have hj := (List.getElem?_eq_some_iff.1 hu).1
    simp only [List.length_cons, List.length_nil] at hj
    rw [List.getElem?_append_left (by rw [h.1]; omega)]
    exact h3 j u hu
  · have hi' : i = ts.length := by have := (List.getElem?_eq_some_iff.1 hp).1; simp at this; omega
    subst hi'
    simp at hp
    subst hp
    refine ⟨ht, hk, q, r, s, fun j u hu => ?_, hx⟩
    rw [List.getElem?_append_right (by rw [h.1]; omega), h.1, show ts.length * 4 + j - ts.length * 4 = j by omega]
    exact hu
theorem infoDef : (Try.prog.info? 140).map (fun i => (i.zero, i.size, i.bytes)) = some (some (.agg #[.string ByteArray.empty, .pointer none, .pointer none, .pointer none]), 4, 40) := by kernel_rfl
end Go.Proofs.Ytempfaefopfobaa
