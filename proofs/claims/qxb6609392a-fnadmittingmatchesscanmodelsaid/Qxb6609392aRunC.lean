/-
  zzRunAdmitting's last call, and what the laid data are.
-/
import Derived.Test.Qxb6609392aRunB
namespace Go.Proofs.Qxb6609392a
open Go.RowKit

def mkD (n s d : Nat) (X : Nat → Wr) (b0 b1 b3 b5 b6 b8 bl t1 t2 t3 cr p1 p2 p3 S : Nat) (nv : Int) (F K N1 N2 N3 R L : Nat → Int) : AD :=
  { n := n, gw := b0, gc := b1, gf := b3, gm := b5, gr := b6, t1 := t1, t2 := t2, t3 := t3, gd := b8, gl := bl, cw := n, cc := n, cf := n, cr := cr, k1 := 2 * p1, k2 := 2 * p2, k3 := 2 * p3, cd := n, cl := d,
    call := fun i => (X i).c, CW := fun i => (X i).c, CL := fun i => (X i).last, CF := fun i => (X i).fr, fst := F, nv := nv, s := s, R := K, p1 := p1, N1 := N1, p2 := p2, N2 := N2, p3 := p3, N3 := N3, d := d, OR := R, OL := L, S := S }

section
variable {W w : World} {n s d b0 b1 b2 b3 b4 b5 b6 b7 b8 b9 bl t1 t2 t3 cr p1 p2 p3 S : Nat} {X : Nat → Wr} {T : Int → Nat × Nat} {F K G R I L C V N1 N2 N3 : Nat → Int} {nv : Int}

theorem mkD_ok (hn : n ≤ 4096) (hs : s ≤ 8192) (hd : d ≤ 4096) (tr1 : Tree p1 N1) (tr2 : Tree p2 N2) (tr3 : Tree p3 N3) (a1 : s ≤ p1) (a2 : n ≤ p2) (a3 : n ≤ p3) (c1 : p1 ≤ 65536) (c2 : p2 ≤ 65536) (c3 : p3 ≤ 65536) (hK : Asc K s) (hR : Asc R d) : (mkD n s d X b0 b1 b3 b5 b6 b8 bl t1 t2 t3 cr p1 p2 p3 S nv F K N1 N2 N3 R L).Ok :=
  ⟨hn, hs, a1, c1, c2, c3, a2, a3, hd, tr1, tr2, tr3, hK, hR⟩

theorem mkD_lay (ow : Owners s (picks (fun i => (X i).slot) n) (fun i => (X i).fr) K G) (fi : Firsts n s X G F C) (h1 : ∀ k, k < s → N1 (p1 + k) = C k) (h2 : ∀ i, i < n → N2 (p2 + i) = V i) (hV : ∀ i, i < n → V i = if 0 ≤ F i then F i else -9223372036854775808) (h3 : ∀ i, i < n → N3 (p3 + i) = idleG X i) :
    Lay (mkD n s d X b0 b1 b3 b5 b6 b8 bl t1 t2 t3 cr p1 p2 p3 S nv F K N1 N2 N3 R L) X :=
  lay_of (fun _ _ => rfl) (fun _ _ => rfl) (fun _ _ => rfl) ow fi h1 (fun i hi => (h2 i hi).trans (hV i hi)) (fun i hi => h3 i hi)

theorem zz_final (M : MemS W n s d X b0 b1 b2 b3 b4 b5 b6 b7 b8 b9 T F K G R I w) (ch : Chn w.heap.size b0 b1 b2 b3 b4 b5 b6 b7 b8 b9) (hL : OwnF W bl d L) (i1 : IntsF W t1 (2 * p1) N1) (i2 : IntsF W t2 (2 * p2) N2) (i3 : IntsF W t3 (2 * p3) N3)
    (ok : (mkD n s d X b0 b1 b3 b5 b6 b8 bl t1 t2 t3 cr p1 p2 p3 S nv F K N1 N2 N3 R L).Ok) (hS : b9 < S ∧ bl < S ∧ t1 < S ∧ t2 < S ∧ t3 < S) (sp : Spans n X n T) (hmc : ∀ a b, a ≤ b → b < n → (X a).v = (X b).v → (X a).c ≤ (X b).c)
    (v rc rr sl steps : Int) (hwv : (Lit.int .i64 v).wf = true) (s0 : W.cell? ⟨S, 0, none⟩ = some (.int .i64 steps)) (zs : W.frozen? ⟨S, 0, none⟩ = false) (hsb : steps ≤ 9223372036854775807) :
    Calls Try.prog 21 #[.slice (some ⟨b0, 0, none⟩) n n, .slice (some ⟨b1, 0, none⟩) n n, .slice (some ⟨b3, 0, none⟩) n n, .map (some b5), .int .i64 nv, .slice (some ⟨b6, 0, none⟩) s cr,
        .agg #[.int .i64 p1, .slice (some ⟨t1, 0, none⟩) (2 * p1) (2 * p1)], .agg #[.int .i64 p2, .slice (some ⟨t2, 0, none⟩) (2 * p2) (2 * p2)], .agg #[.int .i64 p3, .slice (some ⟨t3, 0, none⟩) (2 * p3) (2 * p3)],
        .agg #[.slice (some ⟨b8, 0, none⟩) d n, .slice (some ⟨bl, 0, none⟩) d d], .pointer (some ⟨S, 0, none⟩), .agg #[.bool false, .int .i64 v, .int .i64 rc, .int .i64 rr, .bool false, .int .i64 sl]] W fun e w' =>
      e = .returned (.tuple #[.int .i64 (admitF (mkD n s d X b0 b1 b3 b5 b6 b8 bl t1 t2 t3 cr p1 p2 p3 S nv F K N1 N2 N3 R L) rc rr (choicesF (mkD n s d X b0 b1 b3 b5 b6 b8 bl t1 t2 t3 cr p1 p2 p3 S nv F K N1 N2 N3 R L) T v rc rr) steps).1, .int .i64 (admitF (mkD n s d X b0 b1 b3 b5 b6 b8 bl t1 t2 t3 cr p1 p2 p3 S nv F K N1 N2 N3 R L) rc rr (choicesF (mkD n s d X b0 b1 b3 b5 b6 b8 bl t1 t2 t3 cr p1 p2 p3 S nv F K N1 N2 N3 R L) T v rc rr) steps).2.1]) ∧
      w'.cell? ⟨S, 0, none⟩ = some (.int .i64 (admitF (mkD n s d X b0 b1 b3 b5 b6 b8 bl t1 t2 t3 cr p1 p2 p3 S nv F K N1 N2 N3 R L) rc rr (choicesF (mkD n s d X b0 b1 b3 b5 b6 b8 bl t1 t2 t3 cr p1 p2 p3 S nv F K N1 N2 N3 R L) T v rc rr) steps).2.2) ∧ Kept [S] W w' := by
  have hc := ch.h
  have hSl : S < W.heap.size := World.block_lt_of_cell? W _ s0
  have cont : Cont W (mkD n s d X b0 b1 b3 b5 b6 b8 bl t1 t2 t3 cr p1 p2 p3 S nv F K N1 N2 N3 R L) := ⟨M.ops, M.cl0, M.cl1, M.cl2, M.first.ints, M.mom.ints, i1, i2, i3, M.ret.ints, hL.ints⟩
  obtain ⟨q1, q2, q3⟩ := sp.all v
  have hall : ∀ k ∈ [b0, b1, b3, b6, t1, t2, t3, b8, bl], k < S := fun k hk => by
    simp only [List.mem_cons, List.not_mem_nil, or_false] at hk
    omega
  exact zzadm_fn (mkD n s d X b0 b1 b3 b5 b6 b8 bl t1 t2 t3 cr p1 p2 p3 S nv F K N1 N2 N3 R L) T false false v rc rr sl steps W cont ok M.map.at hwv q1 q2
    (fun a b h1 h2 h3 => hmc a b h2 (Nat.lt_of_lt_of_le h3 q2) (((q3 a (by omega)).1 ⟨h1, by omega⟩).trans ((q3 b (by omega)).1 ⟨by omega, h3⟩).symm))
    (fun k hk => Nat.lt_trans (hall k hk) hSl) (fun h => Nat.lt_irrefl _ (hall S h)) s0 zs hsb
end
end Go.Proofs.Qxb6609392a
